import PyProof.Rows.All
import Wide.All
import OpenK.AllK
import Wide.FinOn
import KE.KPairTest
import PySem.Challenge.RW_fc0083_01
set_option Elab.async false
set_option rowWalk.seconds 0
section
namespace Mine
def isRtl (w : String) : Bool := w == "R" || w == "AL" || w == "AN"
/-- the check, over a run from the right; num: the figures seen, ve: a good end, ei: its place -/
def scanR : List String → Nat → Option String → Bool → Nat → Option (String × Nat)
  | [], _, _, ve, ei => if ve then none else some ("bidi_rule_3", ei)
  | w :: r, j, num, ve, ei =>
    if w == "L" then some ("bidi_rule_2", j) else
    let ve' := if w == "R" || w == "AL" || w == "EN" || w == "AN" then true else if w == "NSM" then ve else false
    let ei' := if w == "NSM" then ei else j
    if w == "AN" || w == "EN" then
      match num with
      | none => scanR r (j + 1) (some w) ve' ei'
      | some n => if n == w then scanR r (j + 1) (some n) ve' ei' else some ("bidi_rule_4", j)
    else scanR r (j + 1) num ve' ei'
def scanL : List String → Nat → Bool → Nat → Option (String × Nat)
  | [], _, ve, ei => if ve then none else some ("bidi_rule_6", ei)
  | w :: r, j, ve, ei =>
    if isRtl w then some ("bidi_rule_5", j) else
    scanL r (j + 1) (if w == "L" || w == "EN" then true else if w == "NSM" then ve else false) (if w == "NSM" then ei else j)
def chk : List String → Bool → Option (String × Nat)
  | ws, asked => if !(ws.any isRtl) && !asked then none else
    match ws with
    | [] => none
    | w :: _ => if w == "R" || w == "AL" then scanR ws 1 none false 1 else if w == "L" then scanL ws 1 false 1 else some ("bidi_rule_1", 1)
end Mine
end
section
open PySem PySem.W PyProof.Rows
local macro_rules | `(tactic| k_head) => `(tactic| x_head)
set_option maxRecDepth 100000
set_option maxHeartbeats 8000000
namespace Mine
open_top hd for PySem.Challenge.rw_fc0083_01
end Mine
end
section
open PySem PySem.W PySem.W.X PySem.Calls PyProof.Rows
namespace Mine
/-- the model the walk runs in -/
noncomputable abbrev MD (w : World) : Model := model PySem.Challenge.rw_fc0083_01.row.prog w
abbrev excObj (dx : Option Addr) (t0 : Addr) : Obj := { cls := .ref 62, dict := dx, data := .fields #[.ref t0, .none, .none, .none, .bool false, .none] }
abbrev argsObj (msg : Str) (t : Tok) : Obj := { cls := .type "tuple", data := .seq #[.str msg t] }
/-- a fresh IDNABidiError, no attributes yet -/
def NewMade (hp : Heap) (g : Array GenState) (d : Drawn) (os : OsState) (msg : Str) (t : Tok) (v : Value) (s' : Shared) : Prop :=
  ∃ (e t0 : Addr) (h' : Heap) (tk' : Nat) (news : List (Addr × Obj)), v = .ref e ∧ s' = ⟨h', g, d, tk', os⟩ ∧ Mem hp h' [] news ∧ (e, excObj none t0) ∈ news ∧ (t0, argsObj msg t) ∈ news
theorem NewMade.intro {hp : Heap} {g : Array GenState} {d : Drawn} {os : OsState} {msg : Str} {t : Tok} {e t0 : Addr} {h' : Heap} {tk' : Nat} {news : List (Addr × Obj)} (D : Mem hp h' [] news)
     (m1 : (e, excObj none t0) ∈ news) (m3 : (t0, argsObj msg t) ∈ news) : NewMade hp g d os msg t (.ref e) ⟨h', g, d, tk', os⟩ :=
  ⟨e, t0, h', tk', news, rfl, rfl, D, m1, m3⟩
/-- the plain end of a call -/
def runK : Result → Sem Flow := fun x => match x with | Except.ok f => Sem.pure f | Except.error e => Sem.raise e
def FlowIs (P : Value → Shared → Prop) (f : Flow) (s' : Shared) : Prop := ∃ v, f = .ret v ∧ P v s'
local macro_rules | `(tactic| x_close) => `(tactic| (refine ⟨_, rfl, ?_⟩; refine' NewMade.intro ?D ?m1 ?m3; (case D => assumption); (case m1 => repeat (first | exact List.Mem.head _ | apply List.Mem.tail)); (case m3 => repeat (first | exact List.Mem.head _ | apply List.Mem.tail))))
set_option maxRecDepth 100000 in
set_option maxHeartbeats 0 in
theorem exc_new {w : World} (fr : List Env) (gd : Option (List Code)) (hp : Heap) (g : Array GenState) (d : Drawn) (tk : Nat) (os : OsState) (E : Value → Shared → Prop)
  (msg c x : Str) (t tc tx tn tp : Tok) (n p : Int) (X : (hd.heap_39 w.params).In hp) :
      wpAny (model PySem.Challenge.rw_fc0083_01.row.prog w) ({ handled := none, depth := 500, frames := some fr, guards := gd, units := 5000 } : Around)
       (Sem.call (Code.call (.builtin "ValueError.__new__") ⟨[.ref 62, .str msg t], [(Str.ofString "code", .str c tc), (Str.ofString "text", .str x tx), (Str.ofString "codepoint", .int n tn), (Str.ofString "position", .int p tp)]⟩) none false [] runK)
        (fun f s' => FlowIs (NewMade hp g d os msg t) f s') E ⟨hp, g, d, tk, os⟩ := by
  w_on
  revert X; k_fill; intro X
  x_run
end Mine
end
section
open PySem PySem.W PySem.W.X PySem.Calls PyProof.Rows
namespace Mine
abbrev kwOf (c x : Str) (n p : Int) (tc tx tn tp : Tok) : List (Str × Value) := [(Str.ofString "code", .str c tc), (Str.ofString "text", .str x tx), (Str.ofString "codepoint", .int n tn), (Str.ofString "position", .int p tp)]
abbrev AX (fr : List Env) (gd : Option (List Code)) : Around := { handled := none, depth := 400, frames := some fr, guards := gd, units := 4000 }

theorem in_mono {α : Type} {M : Model} {t : Sem α} {Q : α → Shared → Prop} {E : Value → Shared → Prop} {s : Shared} {hn : Option Value} {fr : Option (List Env)} {gd : Option (List Code)} {d u d' u' : Nat}
   (hd : d ≤ d') (hu : u ≤ u') (h : wpAny M { handled := hn, depth := d', frames := fr, guards := gd, units := u' } t Q E s) : wpAny M { handled := hn, depth := d, frames := fr, guards := gd, units := u } t Q E s :=
  fun Γ p hΓ => h Γ p ⟨hΓ.1, Nat.le_trans hΓ.2.1 hd, hΓ.2.2.1, hΓ.2.2.2.1, Nat.le_trans hΓ.2.2.2.2 hu⟩

set_option maxRecDepth 100000 in
set_option maxHeartbeats 4000000 in
theorem type_call {w : World} (fr : List Env) (gd : Option (List Code)) (hp : Heap) (g : Array GenState) (d : Drawn) (tk : Nat) (os : OsState) (R : Result → Shared → Prop)
  (msg c x : Str) (t tc tx tn tp : Tok) (n p : Int) (X : (hd.heap_39 w.params).In hp)
  (hq : ∀ (e t0 : Addr) (h' : Heap) (tk' : Nat) (news : List (Addr × Obj)), Mem hp h' [] news → (e, excObj none t0) ∈ news → (t0, argsObj msg t) ∈ news →
     codeAny (MD w) ((AX fr gd).under (.builtin "type.__call__" ⟨.ref 62 :: [.str msg t], kwOf c x n p tc tx tn tp⟩)) (.call (.ref 46) ⟨.ref e :: [.str msg t], kwOf c x n p tc tx tn tp⟩) (InitBack e R) ⟨h', g, d, tk', os⟩) :
   codeAny (MD w) (AX fr gd) (.call (.ref 62) ⟨[.str msg t], kwOf c x n p tc tx tn tp⟩) R ⟨hp, g, d, tk, os⟩ := by
  revert X; delta MD; k_fill; intro X
  have call : Looks (model PySem.Challenge.rw_fc0083_01.row.prog w) hp (specialOf (.ref 62) "__call__") (some (.builtin "type.__call__")) := looks_specialIn X (by k_is)
  have typ : Looks (model PySem.Challenge.rw_fc0083_01.row.prog w) hp (isInstance (.ref 62) (.type "type")) true := looks_instIn X (by k_is)
  obtain ⟨cd, hc, e4⟩ : ∃ cd, clsIn (hd.heap_39 w.params) 62 = some cd ∧ cd.mro.isEmpty = false := ⟨_, by k_is, rfl⟩
  have hm : Looks (model PySem.Challenge.rw_fc0083_01.row.prog w) hp (mroOf (.ref 62)) cd.mro := (looks_clsIn X hc).andThen .now
  have made : Looks (model PySem.Challenge.rw_fc0083_01.row.prog w) hp (Bind.madeBy (.ref 62)) (some "ValueError.__new__") := Looks.of_peek X (by kernel_rfl)
  have hi : Looks (model PySem.Challenge.rw_fc0083_01.row.prog w) hp (typeLookup (.ref 62) "__init__") (some (.ref 46)) := looks_findIn X (by k_is)
  have hC := X 62 _ (by k_is)
  refine codeAny_of_tree ?_
  show wpAny _ _ (callAny (.ref 62) _) _ _ _
  refine nd_load hC ?_
  show wpAny _ _ (callAny.viaDunder (.ref 62) _) _ _ _
  unfold callAny.viaDunder
  refine wpAny_bind (call.at ?_)
  dsimp only
  rw [tc_bind]
  refine wpAny_bind (wpAny_pure (wpAny_bind (wpAny_pure ?_)))
  refine wpAny_pure (a := Fin.again (.call (.builtin "type.__call__") ⟨.ref 62 :: [.str msg t], kwOf c x n p tc tx tn tp⟩)) (And.intro rfl ?_)
  refine codeAny_call_builtin_at (Code.quiet_builtin _ (by decide +kernel)) entry_typeCall (check_slot tc_kind tc_split typ (tc_args _ _ _) ?_)
  unfold Builtin.«type.__call__»
  have e0 : ((AX fr gd).under (.builtin "type.__call__" ⟨.ref 62 :: [.str msg t], kwOf c x n p tc tx tn tp⟩)) = { handled := none, depth := 401, frames := some fr, guards := gd, units := 4001 } := by kernel_rfl
  rw [e0] at hq ⊢
  have hN := fun tk' E' => in_mono (M := MD w) (hn := none) (fr := some fr) (gd := gd) (d := 401) (u := 4001) (d' := 500) (u' := 5000) (by decide) (by decide) (exc_new fr gd hp g d tk' os E' msg c x t tc tx tn tp n p X)
  repeat (first | simp only [e4, Bool.false_eq_true, if_false] | lk)
  refine wpAny_mono (hN _ (fun _ _ => False)) ?_ (fun _ _ h => h.elim)
  rintro f s' ⟨v, rfl, e, t0, h', tk', news, rfl, rfl, D, m1, m3⟩
  have k : ∀ b o, hp.get? b = some o → h'.get? b = some o := fun b o eq => D.keep b o eq (by rw [Bool.or_eq_true]; exact .inr rfl)
  have hx := (D.nw _ m1).1
  have t1 : Looks (model PySem.Challenge.rw_fc0083_01.row.prog w) h' (typeOf (.ref e)) (.ref 62) := (Looks.ld hx).andThen .now
  have s1 : Looks (model PySem.Challenge.rw_fc0083_01.row.prog w) h' (isSubtype (.ref 62) (.ref 62)) true := (looks_mroIn X (by k_is)).keeps k
  have i1 := hi.keeps k
  have b1 : Looks (model PySem.Challenge.rw_fc0083_01.row.prog w) h' (bindSpecial (.ref 46) (.ref e)) (.ref 46, [.ref e]) := (bind_fn X (.ref e) (by k_is)).keeps k
  refine wpAny_pure ?_
  unfold isInstance callSpecial? specialOf
  repeat (first | with_reducible refine wpAny_call ?_ | lk)
  refine codeAny_mono (hq e t0 h' tk' news D m1 m3) fun r s' z => ?_
  rcases r with e | (v | _ | _ | _) <;> first | exact z | exact z.elim | skip
  obtain ⟨rfl, z⟩ := z
  exact wpAny_pure (wpAny_pure z)
end Mine
end
section
open PySem PySem.W PySem.W.X PySem.Calls PyProof.Rows Builtin Builtin.ObjectAttr Builtin.Getset_descriptor
namespace Mine
theorem refuse_exc (self : Value) : refuseLoop self "__setattr__" [.ref 62, .ref 49, .type "ValueError", .type "Exception", .type "BaseException", .type "object"] = pure () := by kernel_rfl

/-- the exception e of class 62 with its fields and its attributes; all of B stands -/
structure EI (B h : Heap) (e : Addr) (fl : Array Value) (mA : Str → Option Value) : Prop where
  keep : ∀ b o, B.get? b = some o → h.get? b = some o
  new : B.get? e = none
  obj : ∃ od, h.get? e = some ⟨.ref 62, od, .fields fl, #[]⟩ ∧ ((od = none ∧ ∀ n, mA n = none) ∨ ∃ dx, od = some dx ∧ dx ≠ e ∧ B.get? dx = none ∧ h.Ns1 dx mA)
theorem EI.base {B B' h : Heap} {e : Addr} {fl : Array Value} {mA : Str → Option Value} (I : EI B h e fl mA) (k : ∀ b o, B'.get? b = some o → B.get? b = some o) : EI B' h e fl mA := by
  have nn : ∀ b, B.get? b = none → B'.get? b = none := fun b hb => by
    cases q : B'.get? b with
    | none => rfl
    | some o => rw [k b o q] at hb; cases hb
  refine ⟨fun b o q => I.keep b o (k b o q), nn _ I.new, ?_⟩
  obtain ⟨od, hx, hd⟩ := I.obj
  refine ⟨od, hx, hd.imp id ?_⟩
  rintro ⟨dx, a, b, c, d⟩
  exact ⟨dx, a, b, nn _ c, d⟩

theorem exc_store {prog : Program} {w : World} {A : Around} {E : Value → Shared → Prop} {B h : Heap} {g : Array GenState} {d : Drawn} {t : Nat} {os : OsState} {e : Addr} {fl : Array Value} {mA : Str → Option Value} {name : Str} {v : Value} {ns : List Str} {tk : Tok} {Q : PySem.Fin → Shared → Prop} {cd : ClassData} {b : Bool}
    (hd : Looks (model prog w) h (classData 62) cd) (hcd : cd.hasDict = true)
    (I : EI B h e fl mA) (hw : Within mA ns) (hsz : ns.length ≤ 100)
    (hq : ∀ h' tk', EI B h' e fl (fun y => if y = name then some v else mA y) → Q (.done (.ret .none)) ⟨h', g, d, tk', os⟩) :
    wpAny (model prog w) A (storeInOwnDict (.ref e) (.ref 62) (.str name tk) name v b) Q E ⟨h, g, d, t, os⟩ := by
  obtain ⟨hk, hn, od, hx, hdd⟩ := I
  refine wpAny_bind (wpAny_pure (wpAny_bind (wpAny_bind (wpAny_loadPart hx (wpAny_bind (hd.here ?_))))))
  rw [hcd]
  rcases hdd with ⟨rfl, hmA⟩ | ⟨dx, rfl, hne, hnB, hns⟩
  · have hx₁ : (h.push { cls := .type "dict", data := .dict #[] }).get? e = some ⟨.ref 62, none, .fields fl, #[]⟩ := Heap.get?_push_of_some _ hx
    have hxs : e ≠ h.objs.size := Nat.ne_of_lt (Heap.lt_size hx)
    have hgd : ((h.push { cls := .type "dict", data := .dict #[] }).update e fun o => { cls := o.cls, dict := some h.objs.size, data := o.data, slots := o.slots }).get? h.objs.size
          = some { cls := .type "dict", data := .dict #[] } :=
        (Heap.get?_update_ne _ _ _ _ hxs.symm).trans (Heap.get?_push_at rfl rfl)
    have hnd : ((h.push { cls := .type "dict", data := .dict #[] }).update e fun o => { cls := o.cls, dict := some h.objs.size, data := o.data, slots := o.slots }).Ns h.objs.size (fun _ => none) :=
        ⟨_, #[], _, hgd, rfl, fun e he => absurd he (by simp), fun _ => rfl⟩
    have hBs : B.get? h.objs.size = none := by
      cases q : B.get? h.objs.size with
      | none => rfl
      | some o => exact absurd (Heap.lt_size (hk _ _ q)) (Nat.lt_irrefl _)
    refine wpAny_bind (wpAny_alloc' ?_)
    refine wpAny_bind (wpAny_update' hx₁ ?_)
    refine wpAny_pure ?_
    show wpAny _ _ (storeInDict h.objs.size (.str name tk) name v) _ _ _
    unfold storeInDict newKeyGuard
    refine wpAny_bind (wpAny_pure (wpAny_bind (wpAny_nsSet1 (Heap.Ns1.of_empty hnd) fun h' hn' hs => ?_)))
    obtain ⟨oD, esD, epD, hoD, hdD, hcD⟩ := hn'.count (Within.cons name v Within.nil)
    refine wpAny_bind (wpAny_lookBehind hoD (by rw [hdD]; exact pastItsLine_dict (Nat.le_trans hcD (by rw [List.length_cons, List.length_nil, sizeLine_eq]; omega))) ?_)
    refine wpAny_pure (hq h' _ ⟨fun b ob hb => ?_, hn, some h.objs.size, ?_, .inr ⟨h.objs.size, rfl, hxs.symm, hBs, ?_⟩⟩)
    · have hbx : b ≠ e := fun q => by rw [q, hn] at hb; cases hb
      exact (hs.2 b (Nat.ne_of_lt (Heap.lt_size (hk b ob hb)))).trans ((Heap.get?_update_ne _ _ _ _ hbx).trans (Heap.get?_push_of_some _ (hk b ob hb)))
    · exact (hs.2 e hxs).trans (Heap.get?_update_self _ hx₁ rfl)
    · obtain ⟨o', es, ep, e1, e2, e3, eu, e4⟩ := hn'
      exact ⟨o', es, ep, e1, e2, e3, eu, fun y => by rw [e4 y]; by_cases hy : y = name <;> simp [hy, hmA]⟩
  · refine wpAny_pure ?_
    show wpAny _ _ (storeInDict dx (.str name tk) name v) _ _ _
    unfold storeInDict newKeyGuard
    refine wpAny_bind (wpAny_pure (wpAny_bind (wpAny_nsSet1 hns fun h' hn' hs => ?_)))
    obtain ⟨oD, esD, epD, hoD, hdD, hcD⟩ := hn'.count (Within.cons name v hw)
    refine wpAny_bind (wpAny_lookBehind hoD (by rw [hdD]; exact pastItsLine_dict (Nat.le_trans hcD (by rw [List.length_cons, sizeLine_eq]; omega))) ?_)
    refine wpAny_pure (hq h' _ ⟨fun b ob hb => (hs.2 b fun q => by rw [q, hnB] at hb; cases hb).trans (hk b ob hb), hn, some dx, (hs.2 e hne.symm).trans hx, .inr ⟨dx, rfl, hne, hnB, hn'⟩⟩)

theorem EI.inst {B h : Heap} {e : Addr} {fl : Array Value} {mA : Str → Option Value} (I : EI B h e fl mA) : ∃ ox od, InstAt h e ox 62 od := by
  obtain ⟨hk, hn, od, hx, hdd⟩ := I
  rcases hdd with ⟨rfl, _⟩ | ⟨dx, rfl, hne, hnB, hns⟩
  · exact ⟨_, none, hx, rfl, rfl, trivial⟩
  · obtain ⟨o', es, ep, e1, _⟩ := hns
    exact ⟨_, some o', hx, rfl, rfl, e1⟩

set_option maxRecDepth 100000 in
set_option maxHeartbeats 4000000 in
theorem exc_set {w : World} {A : Around} {E : Value → Shared → Prop} {B h : Heap} {g : Array GenState} {d : Drawn} {t : Nat} {os : OsState} {e : Addr} {fl : Array Value} {mA : Str → Option Value} {name : Str} {v : Value} {ns : List Str} {Q : Unit → Shared → Prop}
    (X : (hd.heap_39 w.params).In h) (ha : findIn (hd.heap_39 w.params) (.ref 62) name = some none)
    (I : EI B h e fl mA) (hw : Within mA ns) (hsz : ns.length ≤ 100)
    (hq : ∀ h' tk', EI B h' e fl (fun y => if y = name then some v else mA y) → Q () ⟨h', g, d, tk', os⟩) :
    wpAny (MD w) A (setAttr (.ref e) name v) Q E ⟨h, g, d, t, os⟩ := by
  revert X; delta MD; k_fill; intro X
  obtain ⟨ox, od, J⟩ := I.inst
  refine set_plain X J (by k_is) ?_
  have SF := PySem.F.store_object
  have hm : Looks (model PySem.Challenge.rw_fc0083_01.row.prog w) h (mroOf (.ref 62)) [.ref 62, .ref 49, .type "ValueError", .type "Exception", .type "BaseException", .type "object"] := (looks_clsIn X (by k_is)).andThen .now
  have sub : Looks (model PySem.Challenge.rw_fc0083_01.row.prog w) h (isInstance (.ref e) (.type "object")) true := J.type.andThen (looks_mroIn X (by k_is))
  refine codeAny_call_builtin SF.slot.plain SF.entry ?_
  with_reducible refine check_slot (self := .ref e) (kw := []) SF.kind SF.split sub (SF.args (.ref e) (.str name _) v) ?_
  rw [osa_eq, refuse_eq]
  refine wpAny_bind (wpAny_bind (J.type.here (wpAny_bind (hm.here ?_))))
  rw [refuse_exc]
  refine wpAny_pure (wpAny_bind (J.type.here (wpAny_bind ((looks_findIn X ha).here (wpAny_bind ?_)))))
  refine wpAny_pure ?_
  exact exc_store (looks_clsIn X (by k_is)) rfl I hw hsz fun h' tk' I' => hq h' tk' I'
end Mine
end
section
open PySem PySem.W PySem.W.X PySem.Calls PyProof.Rows Builtin Builtin.ObjectAttr Builtin.Getset_descriptor
namespace Mine
abbrev superObj (D e C : Addr) : Obj := { cls := .type "super", dict := none, data := .fields #[.ref D, .ref e, .ref C], slots := #[] }
abbrev mwObj (i : String) (e : Addr) : Obj := { cls := .type "method-wrapper", data := .fields #[.builtin i, .ref e] }
theorem slot_wd_get : Slot "wrapper_descriptor" "__get__" "wrapper_descriptor.__get__" := .of (owner := "wrapper_descriptor") (n := "__get__") (by rw [typeLookup_type, builtinLookup_eq_fast]; kernel_rfl) (by decide +kernel) (by decide +kernel) (by decide +kernel)
  (by first | exact .inl (by decide +kernel) | exact .inr (by decide +kernel)) (by rw [isSubtype_type]; kernel_rfl)
theorem vi_type : typeOf (.builtin "ValueError.__init__") = pure (.type "wrapper_descriptor") := by show builtinType _ = _; rw [builtinType_eq_fast]; kernel_rfl
theorem along_vi (K : Frag) : alongIn K "__init__" [.type "ValueError", .type "Exception", .type "BaseException", .type "object"] = some (some (.builtin "ValueError.__init__")) := by kernel_rfl
theorem entry_wd_get : entryFor table "wrapper_descriptor.__get__" = some Builtin.«wrapper_descriptor.__get__» := entryFor_of_tree (by kernel_rfl)
theorem args_wd_get (a b c : Value) : argsOk "wrapper_descriptor.__get__" ⟨[a, b, c], []⟩ := by unfold argsOk; kernel_rfl
set_option maxHeartbeats 1000000 in
theorem super_ga {prog : Program} {w : World} {A : Around} {E : Value → Shared → Prop} {h : Heap} {g : Array GenState} {d : Drawn} {t : Nat} {os : OsState} {so D x C : Addr} {tk : Tok} {Q : PySem.Fin → Shared → Prop}
   {l₀ l : List Value} {K : Frag} {name : Str} {i : String}
    (hso : h.get? so = some (superObj D x C)) (hno : Looks (model prog w) h (opaqueClassAbove (.ref C)) none)
    (hC : Looks (model prog w) h (mroOf (.ref C)) l₀) (hl : (l₀.dropWhile (· != .ref D)).drop 1 = l) (X : K.In h)
    (hf : alongIn K name l = some (some (.builtin i))) (hi : typeOf (.builtin i) = pure (.type "wrapper_descriptor")) (hxC : x ≠ C) {ox : Obj} (hx : h.get? x = some ox) (hxc : ox.cls = .ref C) (hsub : Looks (model prog w) h (isSubtype (.ref C) (.type (".".intercalate (i.cutAt '.').dropLast))) true) (hn : (name == ("__class__" : Str)) = false)
    (hq : Q (.done (.ret (.ref h.objs.size))) ⟨h.push (mwObj i x), g, d, t, os⟩) :
    wpAny (model prog w) A (Builtin.«super.__getattribute__» ⟨[.ref so, .str name tk], []⟩) Q E ⟨h, g, d, t, os⟩ := by
  have hlk := slot_wd_get.lookup
  have hne : (Value.ref x == Value.ref C) = false := by simp [hxC]
  have hTf : (⟨h, g, d, t, os⟩ : Shared).TypeIs (.builtin i) "wrapper_descriptor" := hi
  have hdt : (superObj D x C).data = .fields #[.ref D, .ref x, .ref C] := rfl
  have f0 : (#[.ref D, .ref x, .ref C] : Array Value)[0]? = some (.ref D) := rfl
  have f1 : (#[.ref D, .ref x, .ref C] : Array Value)[1]? = some (.ref x) := rfl
  have f2 : (#[.ref D, .ref x, .ref C] : Array Value)[2]? = some (.ref C) := rfl
  unfold Builtin.«super.__getattribute__»
  repeat (first
    | (with_reducible refine wpAny_field hso hdt f0 ?_) | (with_reducible refine wpAny_field hso hdt f1 ?_) | (with_reducible refine wpAny_field hso hdt f2 ?_)
    | (with_reducible refine ks_wpAny_notOpaque hno ?_)
    | (with_reducible refine Looks.at hC ?_; rw [hl])
    | (refine ks_forIn_along X (fun _ _ => rfl) rfl ?_ hf)
    | (with_reducible refine wpAny_typeOf hTf ?_)
    | (with_reducible refine wpAny_call_entry slot_wd_get hTf entry_wd_get ?_ (args_wd_get _ _ _))
    | (with_reducible refine ⟨_, rfl, ?_⟩)
    | (with_reducible refine wpAny_loadPart_at hx ?_; rw [hxc])
    | (with_reducible refine Looks.at hsub ?_)
    | (simp only [hn, hne, Bool.or_false, Bool.false_eq_true, if_false])
    | wp_step
    | dsimp only)
  all_goals exact hq

set_option maxHeartbeats 1000000 in
theorem super_gm {prog : Program} {w : World} {A : Around} {E : Value → Shared → Prop} {h : Heap} {g : Array GenState} {d : Drawn} {t : Nat} {os : OsState} {so D x C : Addr} {pl : Sem Bool} {Q : Value × List Value → Shared → Prop}
   {l₀ l : List Value} {K : Frag} {name : Str} {i : String}
    (hso : h.get? so = some (superObj D x C)) (hno : Looks (model prog w) h (opaqueClassAbove (.ref C)) none)
    (hC : Looks (model prog w) h (mroOf (.ref C)) l₀) (hl : (l₀.dropWhile (· != .ref D)).drop 1 = l) (X : K.In h)
    (hf : alongIn K name l = some (some (.builtin i))) (hi : typeOf (.builtin i) = pure (.type "wrapper_descriptor")) (hxC : x ≠ C) {ox : Obj} (hx : h.get? x = some ox) (hxc : ox.cls = .ref C) (hsub : Looks (model prog w) h (isSubtype (.ref C) (.type (".".intercalate (i.cutAt '.').dropLast))) true) (hn : (name == ("__class__" : Str)) = false)
    (hq : Q (.ref h.objs.size, []) ⟨h.push (mwObj i x), g, d, t + 1, os⟩) :
    wpAny (model prog w) A (getMethod (.ref so) name pl) Q E ⟨h, g, d, t, os⟩ := by
  have hlk := PySem.F.ks_slot_super_ga.lookup
  have hcan := PySem.F.ks_canon_super_ga
  have hT : ∀ t', (⟨h, g, d, t', os⟩ : Shared).TypeIs (.ref so) "super" := fun _ => ⟨_, hso, rfl⟩
  unfold getMethod
  refine wpAny_bind (wpAny_specialOf (hT _) hlk ?_)
  show wpAny _ _ (if (Manifest.canonical "super.__getattribute__" != "object.__getattribute__") = true then _ else _) _ _ _
  rw [if_pos hcan]
  unfold getAttr getAttrBy
  refine wpAny_bind (wpAny_bind (wpAny_mkText (wpAny_holding (wpAny_bind (wpAny_typeOf (hT _) (wpAny_bind (wpAny_of_eq hlk ?_)))))))
  show wpAny _ _ (getAttrByItsOwn (.ref so) (.str name t) (.type "super") (.builtin "super.__getattribute__") true false) _ _ _
  unfold getAttrByItsOwn hookBefore callGetattribute boundAndCalled
  refine wpAny_bind (wpAny_of_eq (show (if onTheHeap (.type "super") then typeLookup (.type "super") "__getattr__" else pure none) = pure none from rfl) ?_)
  refine wpAny_bind (wpAny_attempt (wpAny_holding ?_))
  show wpAny _ _ (bindSpecial (.builtin "super.__getattribute__") (.ref so) >>= _) _ _ _
  refine wpAny_bind (wpAny_of_eq (PySem.F.ks_slot_super_ga.bind _) ?_)
  refine wpAny_mono (Q := fun v s' => v = .ref h.objs.size ∧ s' = ⟨h.push (mwObj i x), g, d, t + 1, os⟩) (E := fun _ _ => False)
    (wpAny_call_entry PySem.F.ks_slot_super_ga (hT _) PySem.F.ks_entry_super_ga (super_ga hso hno hC hl X hf hi hxC hx hxc hsub hn ⟨_, rfl, rfl, rfl⟩) (PySem.F.ks_gaArgs_super _ _)) (fun v s' hv => ?_) fun _ _ z => z.elim
  obtain ⟨rfl, rfl⟩ := hv
  exact wpAny_pure (wpAny_pure hq)

theorem super_gattr {prog : Program} {w : World} {A : Around} {E : Value → Shared → Prop} {h : Heap} {g : Array GenState} {d : Drawn} {t : Nat} {os : OsState} {so D x C : Addr} {Q : Value → Shared → Prop}
   {l₀ l : List Value} {K : Frag} {name : Str} {i : String} {ex : Bool}
    (hso : h.get? so = some (superObj D x C)) (hno : Looks (model prog w) h (opaqueClassAbove (.ref C)) none)
    (hC : Looks (model prog w) h (mroOf (.ref C)) l₀) (hl : (l₀.dropWhile (· != .ref D)).drop 1 = l) (X : K.In h)
    (hf : alongIn K name l = some (some (.builtin i))) (hi : typeOf (.builtin i) = pure (.type "wrapper_descriptor")) (hxC : x ≠ C) {ox : Obj} (hx : h.get? x = some ox) (hxc : ox.cls = .ref C) (hsub : Looks (model prog w) h (isSubtype (.ref C) (.type (".".intercalate (i.cutAt '.').dropLast))) true) (hn : (name == ("__class__" : Str)) = false)
    (hq : Q (.ref h.objs.size) ⟨h.push (mwObj i x), g, d, t + 1, os⟩) :
    wpAny (model prog w) A (getAttr (.ref so) name ex) Q E ⟨h, g, d, t, os⟩ := by
  have hlk := PySem.F.ks_slot_super_ga.lookup
  have hT : ∀ t', (⟨h, g, d, t', os⟩ : Shared).TypeIs (.ref so) "super" := fun _ => ⟨_, hso, rfl⟩
  unfold getAttr getAttrBy
  refine wpAny_bind (wpAny_mkText (wpAny_holding (wpAny_bind (wpAny_typeOf (hT _) (wpAny_bind (wpAny_of_eq hlk ?_))))))
  show wpAny _ _ (getAttrByItsOwn (.ref so) (.str name t) (.type "super") (.builtin "super.__getattribute__") true ex) _ _ _
  unfold getAttrByItsOwn hookBefore callGetattribute boundAndCalled
  refine wpAny_bind (wpAny_of_eq (show (if onTheHeap (.type "super") then typeLookup (.type "super") "__getattr__" else pure none) = pure none from rfl) ?_)
  refine wpAny_bind (wpAny_attempt (wpAny_holding ?_))
  have tail : wpAny (model prog w) A (bindSpecial (.builtin "super.__getattribute__") (.ref so) >>= fun x => call x.1 (x.2 ++ [.str name t])) (fun v s' => v = .ref h.objs.size ∧ s' = ⟨h.push (mwObj i x), g, d, t + 1, os⟩) (fun _ _ => False) ⟨h, g, d, t + 1, os⟩ := by
    refine wpAny_bind (wpAny_of_eq (PySem.F.ks_slot_super_ga.bind _) ?_)
    exact wpAny_call_entry PySem.F.ks_slot_super_ga (hT _) PySem.F.ks_entry_super_ga (super_ga hso hno hC hl X hf hi hxC hx hxc hsub hn ⟨_, rfl, rfl, rfl⟩) (PySem.F.ks_gaArgs_super _ _)
  cases ex with
  | false =>
    refine wpAny_mono tail (fun v s' hv => ?_) fun _ _ z => z.elim
    obtain ⟨rfl, rfl⟩ := hv
    exact wpAny_pure hq
  | true =>
    refine wpAny_mono tail (fun v s' hv => ?_) fun _ _ z => z.elim
    obtain ⟨rfl, rfl⟩ := hv
    exact wpAny_pure hq

theorem wpAt_StarMethod {M : Model} {A : Around} {c : Code} {E : Value → Shared → Prop} {s : Shared} {env : Env} {o : Expr} {name : Str} {apos pos cpos : Pos} {args : List Expr} {Q : Value → Shared → Prop}
    (h : _root_.PySem.wpAt M A c (attributeBase o name env (eval o env)) (fun ov s₁ => wpAny M A (getAttr ov name true) (fun f s₂ => wpAny M A (callWith cpos f [] (backTo pos (starEach args env)) []) Q E s₂) E s₁) E s)
    (he : eval (.Call (.Attribute o name apos) args [] pos) env = (do
      let ov ← attributeBase o name env (eval o env)
      standAt apos.atName
      let (f, first) ← holding [ov] (do pure (← getAttr ov name true, []))
      callWith cpos f first (backTo pos (starEach args env)) []) := by rfl) :
    _root_.PySem.wpAt M A c (eval (.Call (.Attribute o name apos) args [] pos) env) Q E s := by
  rw [he]
  refine _root_.PySem.wpAt_bind (_root_.PySem.ks_wpAt_mono h (fun ov s₁ h₁ => _root_.PySem.wpAt_of_wpAny (wpAny_bind (wpAny_standAt (wpAny_bind (wpAny_holding (wpAny_bind (wpAny_mono h₁ (fun fx s₂ h₂ => wpAny_pure ?_) fun _ _ x => x))))))) fun _ _ x => x)
  exact h₂

theorem vi_check {M : Model} {A : Around} {E : Value → Shared → Prop} {h : Heap} {g : Array GenState} {d : Drawn} {tk : Nat} {os : OsState} {e : Addr} {msg : Str} {t : Tok} {Q : Unit → Shared → Prop} {oe : Obj} {cd : ClassData} {dd : Option Addr} {sl : Array (Option Value)} {tc : Value}
    (hx : h.get? e = some oe) (hcls : oe.cls = .ref 62) (hC : h.get? 62 = some ⟨tc, dd, .cls cd, sl⟩) (hq : Q () ⟨h, g, d, tk, os⟩) :
    wpAny M A (checkBoundCall "ValueError.__init__" ⟨[.ref e, .str msg t], []⟩) Q E ⟨h, g, d, tk, os⟩ := by
  have F := PySem.F.excBase_ValueError
  have hshort := F.noStar
  unfold checkBoundCall
  simp only [F.initKind, F.initRow]
  repeat (first | (with_reducible refine wpAny_loadPart_at hx ?_; rw [hcls]) | with_reducible refine wpAny_loadPart_at hC ?_ | wp_step)
  exact hq
/-- the base's __init__ upon the made exception: its args anew -/
theorem vi_run {prog : Program} {w : World} {A : Around} {B h : Heap} {g : Array GenState} {d : Drawn} {t : Nat} {os : OsState} {R : Result → Shared → Prop} {e t0 : Addr} {msg : Str} {tm : Tok} {mA : Str → Option Value}
    (I : EI B h e #[.ref t0, .none, .none, .none, .bool false, .none] mA) 
    (hq : ∀ h' t1, EI B h' e #[.ref t1, .none, .none, .none, .bool false, .none] mA → R (.ok (.ret .none)) ⟨h', g, d, t, os⟩) :
    codeAny (model prog w) A (.builtin "ValueError.__init__" ⟨[.ref e, .str msg tm], []⟩) R ⟨h, g, d, t, os⟩ := by
  have F := PySem.F.excBase_ValueError
  refine codeAny_builtin F.initEntry ?_
  obtain ⟨hk, hn, od, hx, hdd⟩ := I
  wp_walk
  have hp1 : (h.push { cls := .type "tuple", data := .seq #[Value.str msg tm] }).get? e = some ⟨.ref 62, od, .fields #[.ref t0, .none, .none, .none, .bool false, .none], #[]⟩ := Heap.get?_push_of_some _ hx
  have hxs : e ≠ h.objs.size := Nat.ne_of_lt (Heap.lt_size hx)
  refine hq _ h.objs.size ⟨fun b o ho => ?_, hn, od, ?_, ?_⟩
  · have hb : b ≠ e := fun q => by rw [q, hn] at ho; cases ho
    rw [Heap.get?_update_other _ _ hb.symm]
    exact Heap.get?_push_of_some _ (hk b o ho)
  · exact Heap.get?_update_self _ hp1 rfl
  · rcases hdd with hdd | ⟨dx, hod, hne, hnB, o, es, ep, e1, r⟩
    · exact .inl hdd
    · refine .inr ⟨dx, hod, hne, hnB, o, es, ep, ?_, r⟩
      rw [Heap.get?_update_other _ _ hne.symm]
      exact Heap.get?_push_of_some _ e1
end Mine
end
section
open PySem PySem.W PySem.W.X PySem.Calls PyProof.Rows Builtin Builtin.ObjectAttr Builtin.Getset_descriptor
namespace Mine
/-- the attributes of a made IDNABidiError -/
abbrev attrsOf (vc vx vn vp : Value) : Str → Option Value := fun y => if y = Str.ofString "position" then some vp else if y = Str.ofString "codepoint" then some vn else if y = Str.ofString "text" then some vx else if y = Str.ofString "code" then some vc else none
theorem EI.up {B h h' : Heap} {e : Addr} {fl : Array Value} {mA : Str → Option Value} (I : EI B h e fl mA) (k : ∀ b o, h.get? b = some o → h'.get? b = some o) : EI B h' e fl mA := by
  obtain ⟨hk, hn, od, hx, hdd⟩ := I
  refine ⟨fun b o q => k b o (hk b o q), hn, od, k _ _ hx, hdd.imp id ?_⟩
  rintro ⟨dx, a, b, c, o, es, ep, e1, r⟩
  exact ⟨dx, a, b, c, o, es, ep, k _ _ e1, r⟩
set_option maxRecDepth 100000 in
set_option maxHeartbeats 4000000 in
theorem init_call {w : World} (fr : List Env) (gd : Option (List Code)) (hp h : Heap) (g : Array GenState) (d : Drawn) (tk : Nat) (os : OsState) (R : Result → Shared → Prop)
  (msg c x : Str) (t tc tx tn tp : Tok) (n p : Int) (X : (hd.heap_39 w.params).In hp) (hlim : hp.NoLimit)
  (e t0 : Addr) (hk : ∀ b o, hp.get? b = some o → h.get? b = some o) (hn : hp.get? e = none) (hx : h.get? e = some (excObj none t0))
  (hq : ∀ h' tk' t1, EI hp h' e #[.ref t1, .none, .none, .none, .bool false, .none] (attrsOf (.str c tc) (.str x tx) (.int n tn) (.int p tp)) → R (.ok (.ret .none)) ⟨h', g, d, tk', os⟩) :
   codeAny (MD w) { handled := none, depth := 401, frames := some fr, guards := gd, units := 4001 } (.call (.ref 46) ⟨.ref e :: [.str msg t], kwOf c x n p tc tx tn tp⟩) R ⟨h, g, d, tk, os⟩ := by
  revert X; delta MD; k_fill; intro X
  have X' := X.keeps hk
  refine codeAny_call_function (Nat.le_of_ble_eq_true rfl) (X' 46 _ (by k_is)) rfl rfl rfl rfl (codeRec_of X' (by k_is)) ?_
  -- the arguments: *args makes a tuple
  refine wpAny_mono (Q := fun binds s' => ∃ T, binds = [(Str.ofString "self", .ref e), (Str.ofString "code", .str c tc), (Str.ofString "text", .str x tx), (Str.ofString "codepoint", .int n tn), (Str.ofString "position", .int p tp), (Str.ofString "args", .ref T)] ∧ s' = ⟨h.push (argsObj msg t), g, d, tk, os⟩ ∧ T = h.objs.size) ?_ ?_ (fun _ _ h => h)
  · show wpAny _ _ (newTuple [.str msg t] >>= _) _ _ _
    refine wpAny_bind (wpAny_newObj_type ?_ (Nat.le_of_ble_eq_true rfl))
    exact wpAny_pure ⟨_, rfl, rfl, rfl⟩
  rintro binds s' ⟨T, rfl, rfl, hT⟩
  have k1 : ∀ b o, h.get? b = some o → (h.push (argsObj msg t)).get? b = some o := fun b o q => Heap.get?_push_of_some _ q
  have gT : (h.push (argsObj msg t)).get? T = some (argsObj msg t) := by rw [hT]; exact Heap.get?_push_size _ rfl
  refine wpAny_newFunctionEnv (by decide) (locs rfl) (fun h₁ hns hsb => ?_) rfl
  have k2 : ∀ b o, h.get? b = some o → h₁.get? b = some o := fun b o q => (hsb.2 b (Nat.ne_of_lt (by rw [Heap.size_push]; exact Nat.lt_succ_of_lt (Heap.lt_size q)))).trans (Heap.get?_push_of_some _ (k1 b o q))
  have kP : ∀ b o, hp.get? b = some o → h₁.get? b = some o := fun b o q => k2 b o (hk b o q)
  have gT1 : h₁.get? T = some (argsObj msg t) := by
    refine (hsb.2 T (Nat.ne_of_lt ?_)).trans (Heap.get?_push_of_some _ gT)
    rw [hT, Heap.size_push]; exact Nat.lt_succ_self _
  have hLe : e ≠ (h.push (argsObj msg t)).objs.size := Nat.ne_of_lt (by rw [Heap.size_push]; exact Nat.lt_succ_of_lt (Heap.lt_size hx))
  have I1 : EI (hideAll h₁ [e]) h₁ e #[.ref t0, .none, .none, .none, .bool false, .none] (fun _ => none) := by
    exact ⟨fun b o q => of_hideAll _ q, hideAll_none _ (.head _), none, k2 _ _ hx, .inl ⟨rfl, fun _ => rfl⟩⟩
  generalize hB : hideAll h₁ [e] = B1 at I1
  have XB : (hd.heap_39 w.params).In B1 := X.keeps fun b o q => by rw [← hB]; exact hideAll_get _ (kP b o q) (by intro hm; rw [List.mem_singleton.mp hm, hn] at q; cases q)
  have hnsB : B1.Ns (h.push (argsObj msg t)).objs.size _ := hns.at' fun o q => by rw [← hB]; exact hideAll_get _ q (by intro hm; exact hLe (List.mem_singleton.mp hm).symm)
  refine ⟨hlim.keeps kP, ks_codeAny_funcAt (ks_wpAt_execs_cons ?_)⟩
  have gTB : B1.get? T = some (argsObj msg t) := by rw [← hB]; exact hideAll_get _ gT1 (by intro hm; rw [List.mem_singleton.mp hm] at gT1; rw [k2 _ _ hx] at gT1; cases gT1)
  have X1 := XB.keeps I1.keep
  refine ks_wpAt_Expr_any (wpAt_StarMethod (ks_wpAt_super_base (by rfl) (by rfl) (by decide +kernel) rfl (X1 46 _ (by k_is)) rfl rfl rfl (X1 45 _ (by k_is)) rfl rfl (by decide +kernel) (by decide +kernel) ?_))
  have ns1 := hnsB.keeps I1.keep
  refine ks_loadName_global rfl rfl ?_
  unfold loadGlobal
  refine wpAny_bind ((looks_nsIn (ns := mainGlobals) (name := Str.ofString "super") X1 (r := none) (by k_is)).here ?_)
  refine wpAny_bind ((looks_nsIn (ns := builtinsNs) (name := Str.ofString "super") X1 (r := some (.type "super")) (by k_is)).here (wpAny_pure ⟨rfl, ?_⟩))
  refine wpAny_loadName_free rfl rfl rfl ⟨_, X1 33 _ (by k_is), rfl⟩ ?_
  refine wpAny_loadName_local rfl rfl ns1 rfl ?_
  refine ks_wpAny_isType_cls (X1 49 _ (by k_is)) rfl ⟨rfl, ?_⟩
  obtain ⟨od1, hx1, _⟩ := I1.obj
  refine ks_wpAny_call_super (X1 49 _ (by k_is)) rfl hx1 rfl (fun c q => by cases q) (looks_mroIn X1 (by k_is)) (fun h₂ gso k3 => ?_)
  have I2 : EI B1 h₂ e #[.ref t0, .none, .none, .none, .bool false, .none] (fun _ => none) := I1.up k3
  have X2 := XB.keeps I2.keep
  obtain ⟨od2, hx2, _⟩ := I2.obj
  have hC2 : Looks (model PySem.Challenge.rw_fc0083_01.row.prog w) h₂ (mroOf (.ref 62)) [.ref 62, .ref 49, .type "ValueError", .type "Exception", .type "BaseException", .type "object"] := (looks_clsIn X2 (by k_is)).andThen .now
  have eC : e ≠ 62 := fun q => by rw [q] at hn; rw [X 62 _ (by k_is)] at hn; cases hn
  refine super_gattr gso (looks_opaque X2 (by k_is)) hC2 (by decide) X2 (along_vi _) vi_type eC hx2 rfl (looks_mroIn X2 (by k_is)) (by decide +kernel) ?_
  have k4 : ∀ b o, h₂.get? b = some o → (h₂.push (mwObj "ValueError.__init__" e)).get? b = some o := fun b o q => Heap.get?_push_of_some _ q
  have gmw : (h₂.push (mwObj "ValueError.__init__" e)).get? h₂.objs.size = some (mwObj "ValueError.__init__" e) := Heap.get?_push_size _ rfl
  have I3 := I2.up k4
  generalize hH3 : h₂.push (mwObj "ValueError.__init__" e) = h₃ at gmw I3
  generalize hMW : h₂.objs.size = mw at gmw
  clear hH3 k4
  -- the call with *args
  refine ks_call (P := fun hh => (∀ b o, h₃.get? b = some o → hh.get? b = some o)) (by rfl) (fun hh hk3 => ⟨.machine, .inr (.inl rfl), ?_⟩) ?_
  · have gg := hk3 _ _ gmw
    exact (Looks.ld gg).andThen .now
  show wpAny _ _ (evalArgs _ true [(true, (do let v ← eval _ _; standAt _; pure v))] []) _ _ _
  refine ks_lone ?_
  refine wpAny_Name (wpAny_loadName_local rfl rfl (hnsB.keeps I3.keep) rfl ?_) (by decide +kernel)
  have gT3 := I3.keep _ _ gTB
  unfold StarOf notIterableAtAll
  refine wpAny_bind (wpAny_specialOf (T := "tuple") ⟨_, gT3, rfl⟩ PySem.F.slot_tuple_iter.lookup (wpAny_pure ⟨rfl, ?_⟩))
  refine wpAny_collect_seq T (.inr rfl) gT3 rfl rfl (fun h₄ k4 => ⟨k4, ?_⟩) (Nat.le_of_ble_eq_true rfl)
  have I4 := I3.up k4
  have gmw4 := k4 _ _ gmw
  have X4 := XB.keeps I4.keep
  obtain ⟨od4, hx4, _⟩ := I4.obj
  refine wpAny_call (codeAny_of_tree ?_)
  show wpAny _ _ (callAny (.ref mw) _) _ _ _
  refine nd_load gmw4 ?_
  refine nd_bind (wpAny_pure ?_)
  show wpAny _ _ (checkBoundCall "ValueError.__init__" ⟨[.ref e, .str msg t], []⟩ >>= fun _ => again (Code.builtin "ValueError.__init__" ⟨[.ref e, .str msg t], []⟩)) _ _ _
  refine wpAny_bind (vi_check hx4 rfl (X4 62 _ (by k_is)) ?_)
  refine wpAny_pure ⟨plainId_quiet PySem.F.excBase_ValueError.init.plain _, ?_⟩
  refine vi_run I4 fun h₅ t1 I5 => ?_
  show _root_.PySem.wpAt _ _ _ (execs _ _) _ _ _
  refine _root_.PySem.wpAt_of_wpAny ?_
  have set := fun {A : Around} {E : Value → Shared → Prop} {h g d t os} {fl mA} {name : Str} {v : Value} {ns : List Str} {Q : Unit → Shared → Prop} (ha : findIn (hd.heap_39 w.params) (.ref 62) name = some none)
    (I : EI B1 h e fl mA) (hw : Within mA ns) (hsz : ns.length ≤ 100) hq => exc_set (w := w) (A := A) (E := E) (B := B1) (h := h) (g := g) (d := d) (t := t) (os := os) (e := e) (fl := fl) (mA := mA) (name := name) (v := v) (ns := ns) (Q := Q) (XB.keeps I.keep) ha I hw hsz hq
  refine wpAny_execs_cons (plainObj_wpAny_Assign_Attribute (wpAny_Name (wpAny_loadName_local rfl rfl (hnsB.keeps I5.keep) rfl ?_) (by decide +kernel)) rfl)
  refine wpAny_Name (wpAny_loadName_local rfl rfl (hnsB.keeps I5.keep) rfl ?_) (by decide +kernel)
  refine set (by k_is) I5 Within.nil (by decide) fun h₆ tk6 I6 => ?_
  refine wpAny_execs_cons (plainObj_wpAny_Assign_Attribute (wpAny_Name (wpAny_loadName_local rfl rfl (hnsB.keeps I6.keep) rfl ?_) (by decide +kernel)) rfl)
  refine wpAny_Name (wpAny_loadName_local rfl rfl (hnsB.keeps I6.keep) rfl ?_) (by decide +kernel)
  refine set (by k_is) I6 (Within.cons _ _ Within.nil) (by decide) fun h₇ tk7 I7 => ?_
  refine wpAny_execs_cons (plainObj_wpAny_Assign_Attribute (wpAny_Name (wpAny_loadName_local rfl rfl (hnsB.keeps I7.keep) rfl ?_) (by decide +kernel)) rfl)
  refine wpAny_Name (wpAny_loadName_local rfl rfl (hnsB.keeps I7.keep) rfl ?_) (by decide +kernel)
  refine set (by k_is) I7 (Within.cons _ _ (Within.cons _ _ Within.nil)) (by decide) fun h₈ tk8 I8 => ?_
  refine wpAny_execs_cons (plainObj_wpAny_Assign_Attribute (wpAny_Name (wpAny_loadName_local rfl rfl (hnsB.keeps I8.keep) rfl ?_) (by decide +kernel)) rfl)
  refine wpAny_Name (wpAny_loadName_local rfl rfl (hnsB.keeps I8.keep) rfl ?_) (by decide +kernel)
  refine set (by k_is) I8 (Within.cons _ _ (Within.cons _ _ (Within.cons _ _ Within.nil))) (by decide) fun h₉ tk9 I9 => ?_
  refine wpAny_execs_nil ?_
  exact hq _ _ t1 (I9.base fun b o q => by rw [← hB]; exact hideAll_get _ (kP b o q) (by intro hm; rw [List.mem_singleton.mp hm, hn] at q; cases q))
end Mine
end
section
open PySem PySem.W PySem.W.X PySem.Calls PyProof.Rows Builtin Builtin.ObjectAttr Builtin.Getset_descriptor
namespace Mine
abbrev flOf (t1 : Addr) : Array Value := #[.ref t1, .none, .none, .none, .bool false, .none]
/-- what the call of IDNABidiError gives -/
def ExcIs (hp : Heap) (g : Array GenState) (d : Drawn) (os : OsState) (mA : Str → Option Value) (v : Value) (s' : Shared) : Prop :=
  ∃ e t1 h' tk', v = .ref e ∧ s' = ⟨h', g, d, tk', os⟩ ∧ EI hp h' e (flOf t1) mA
theorem exc_call {w : World} (dp un : Nat) (hn : Option Value) (hh : hn = none) (fr : List Env) (gd : Option (List Code)) (hdp : dp ≤ 400) (hun : un ≤ 4000) (hp : Heap) (g : Array GenState) (d : Drawn) (tk : Nat) (os : OsState) (E : Value → Shared → Prop)
  (msg c x : Str) (t tc tx tn tp : Tok) (n p : Int) (X : (hd.heap_39 w.params).In hp) (hlim : hp.NoLimit) :
   wpAny (MD w) { handled := hn, depth := dp, frames := some fr, guards := gd, units := un } (call (.ref 62) [.str msg t] (kwOf c x n p tc tx tn tp))
     (ExcIs hp g d os (attrsOf (.str c tc) (.str x tx) (.int n tn) (.int p tp))) E ⟨hp, g, d, tk, os⟩ := by
  subst hh
  refine in_mono (d' := 400) (u' := 4000) hdp hun ?_
  refine wpAny_call ?_
  refine type_call fr gd hp g d tk os _ msg c x t tc tx tn tp n p X fun e t0 h' tk' news D m1 m3 => ?_
  have k : ∀ b o, hp.get? b = some o → h'.get? b = some o := fun b o eq => D.keep b o eq (by rw [Bool.or_eq_true]; exact .inr rfl)
  refine init_call fr gd hp h' g d tk' os _ msg c x t tc tx tn tp n p X hlim e t0 k (D.nw _ m1).2 (D.nw _ m1).1 fun h₂ tk₂ t1 I => ?_
  exact ⟨rfl, e, t1, h₂, tk₂, rfl, rfl, I⟩

/-- raise with a made object of class 62 -/
theorem raise_made {M : Model} {A : Around} {E : Value → Shared → Prop} {s : Shared} {env : Env} {x : Sem Value} {Q : Flow → Shared → Prop} {K : Frag} {cd : ClassData} {dd : Option Addr} {sl : Array (Option Value)}
    (hh : A.handled = none) (hK : K.lookup 62 = some ⟨.type "type", dd, .cls cd, sl⟩) (hsub : mroIn K 62 (.type "BaseException") = some true)
    (h : wpAny M A x (fun v s₁ => ∃ e t1, v = .ref e ∧ K.In s₁.heap ∧ (∃ od, s₁.heap.get? e = some ⟨.ref 62, od, .fields (flOf t1), #[]⟩) ∧ E (.ref e) s₁) E s) :
    wpAny M A (raiseStmt env (some x) none) Q E s := by
  unfold raiseStmt
  refine wpAny_bind (wpAny_mono h (fun v s₁ h₁ => ?_) fun _ _ x => x)
  obtain ⟨e, t, rfl, X, ⟨od, he⟩, hE⟩ := h₁
  obtain ⟨hp, g, d, tk, os⟩ := s₁
  have L := looks_mroIn (M := M) X hsub
  have hC := X _ _ hK
  have T : Looks M hp (typeOf (.ref e)) (.ref 62) := (Looks.ld he).andThen .now
  repeat (first | with_reducible refine wpAny_loadPart_at he ?_ | with_reducible refine wpAny_loadPart_at hC ?_ | (with_reducible refine Looks.at L ?_) | wp_step)
  exact wpAny_raiseNew_none hh hE
end Mine
end
section
open PySem PySem.W PySem.W.X PySem.Calls PyProof.Rows Builtin Builtin.ObjectAttr Builtin.Getset_descriptor
namespace Mine
/-- the exception e stands with its attributes and its traceback, whose flight field is fl -/
def TrD (B h : Heap) (e : Addr) (mA : Str → Option Value) (fl : Value) : Prop :=
  ∃ dx vs T oT ts, h.get? e = some ⟨.ref 62, some dx, .fields vs, #[]⟩ ∧ vs[1]? = some (.ref T) ∧ B.get? T = none ∧ T ≠ e ∧ h.get? T = some oT ∧ oT.data = .fields ts ∧ ts[3]? = some fl ∧ dx ≠ e ∧ B.get? dx = none ∧ h.Ns1 dx mA
/-- it flies over the frames l -/
def FlyD (B : Heap) (l : List Env) (e : Addr) (mA : Str → Option Value) (fl : Value) (h : Heap) : Prop :=
  B.StaysIn h ∧ B.get? e = none ∧ h.FunFrames B l ∧ TrD B h e mA fl
def RaisedD (base : Heap) (l : List Env) (e : Addr) (mA : Str → Option Value) (news : List (Addr × Obj)) (h : Heap) : Prop :=
  ∃ B, base.StaysIn B ∧ (∀ q ∈ news, B.get? q.1 = some q.2 ∧ base.get? q.1 = none) ∧ FlyD B l e mA .none h

section
variable {M : Model} {A : Around} {E : Value → Shared → Prop} {s : Shared}
theorem ns1_keep {h h' : Heap} {a : Addr} {m : Str → Option Value} (x : h.Ns1 a m) (k : ∀ o, h.get? a = some o → (∀ vs, o.data ≠ .fields vs) → ∃ sl, h'.get? a = some { o with slots := sl }) : h'.Ns1 a m := by
  obtain ⟨o, es, ep, e1, e2, e3, e4, e5⟩ := x
  obtain ⟨sl, q⟩ := k o e1 (fun vs z => by rw [e2] at z; cases z)
  exact ⟨_, es, ep, q, e2, e3, e4, e5⟩

/-- the first frame that it leaves -/
theorem leaving_firstD {B : Heap} {env : Env} {outer : List Env} {L e dx : Addr} {vs : Array Value} {mA : Str → Option Value} {Q : Unit → Shared → Prop}
    (hfr : A.frames = some (env :: outer)) (hl : s.heap.FunFrames B (env :: outer)) (hf : env.frame = some L)
    (he : s.heap.get? e = some ⟨.ref 62, some dx, .fields vs, #[]⟩) (hkb : B.StaysIn s.heap) (hen : B.get? e = none) (h1 : vs[1]? = some .none)
    (hde : dx ≠ e) (hdB : B.get? dx = none) (hns : s.heap.Ns1 dx mA)
    (h : ∀ h', FlyD B outer e mA .none h' → s.heap.UpToSlots h' → Q () { s with heap := h' }) : wpAny M A (leaving env (.ref e)) Q E s := by
  unfold leaving noteFrame
  simp only [hf]
  refine wpAny_bind (wpAny_bind (wpAny_field he rfl h1 ?_))
  rw [if_neg (by decide)]
  have hsz : 1 < vs.size := (Array.getElem?_eq_some_iff.mp h1).1
  have hene : e ∉ (env :: outer).filterMap (·.frame) := fun hm => by
    obtain ⟨_, o, ho, hnf⟩ := hl.mem hm
    rw [he] at ho; injection ho with ho; subst ho; exact hnf vs rfl
  refine wpAny_bind (wpAny_frameOf_fun hfr hl hf fun h₁ hs₁ => ?_)
  refine wpAny_bind (wpAny_entryPlaceOf fun pl hpl => ?_)
  unfold EntryCells.newEntry newFields
  refine wpAny_bind (wpAny_newObj_type ?_ (hpl.sizeOk5 _ _ _ _ _))
  have he₁ : h₁.get? e = some ⟨.ref 62, some dx, .fields vs, #[]⟩ := (hs₁.2.1 e hene).trans he
  have kb₁ : B.StaysIn h₁ := fun b o hbo => (hs₁.2.1 b fun hm => by rw [(hl.mem hm).1] at hbo; cases hbo).trans (hkb b o hbo)
  have ns₁ : h₁.Ns1 dx mA := ns1_keep hns fun o q hnf => hs₁.2.2 _ _ q
  generalize hto : ({ cls := .type "traceback", dict := none, data := .fields ([Value.none, .ref L, .none, rawInt L, .none] ++ (if pl.isEmpty then List.replicate 6 Value.none else pl)).toArray } : Obj) = to
  have he₂ := Heap.get?_push_of_some (h := h₁) to he₁
  refine wpAny_setField he₂ rfl hsz ?_
  have hTe : h₁.objs.size ≠ e := Nat.ne_of_gt (Heap.lt_size he₁)
  have he₃ := Heap.get?_update_self (Obj.mapFields (·.setIfInBounds 1 (Value.ref h₁.objs.size))) he₂ rfl
  have hT₃ := (Heap.get?_update_other (h₁.push to) (Obj.mapFields (·.setIfInBounds 1 (Value.ref h₁.objs.size))) (Ne.symm hTe)).trans (Heap.get?_push_size h₁ (by rw [← hto]; rfl))
  unfold setFlight
  refine wpAny_bind (wpAny_field he₃ rfl (x := .ref h₁.objs.size) (by simp [hsz]) ?_)
  rw [if_pos (show (Value.ref h₁.objs.size != Value.none) = true from by simp)]
  have dto : to.data = .fields ([Value.none, .ref L, .none, rawInt L, .none] ++ (if pl.isEmpty then List.replicate 6 Value.none else pl)).toArray := by rw [← hto]
  refine wpAny_setField hT₃ dto (by simp only [List.size_toArray, List.length_append, List.length_cons, List.length_nil]; omega) (h _ ?_ ?_)
  · have keep : ∀ b o, b ≠ e → h₁.get? b = some o →
      (((h₁.push to).update e (Obj.mapFields (·.setIfInBounds 1 (Value.ref h₁.objs.size)))).update h₁.objs.size (Obj.mapFields (·.setIfInBounds 3 ((none : Option Addr).elim Value.none fun f => rawInt f)))).get? b = some o := fun b o hbe hb => by
      have hbT : h₁.objs.size ≠ b := Nat.ne_of_gt (Heap.lt_size hb)
      rw [Heap.get?_update_other _ _ hbT, Heap.get?_update_other _ _ (Ne.symm hbe)]
      exact Heap.get?_push_of_some _ hb
    refine ⟨fun b o hbo => keep b o (fun q => by rw [q, hen] at hbo; cases hbo) (kb₁ b o hbo), hen, ?_, ?_⟩
    · have FF : Heap.FunFrames (((h₁.push to).update e (Obj.mapFields (·.setIfInBounds 1 (Value.ref h₁.objs.size)))).update h₁.objs.size (Obj.mapFields (·.setIfInBounds 3 ((none : Option Addr).elim Value.none fun f => rawInt f)))) B (env :: outer) := hl.of_keeps fun b o hb hnf => by
        obtain ⟨sl, hs⟩ := hs₁.2.2 b o hb
        exact ⟨_, keep b _ (fun q => by rw [q, he] at hb; injection hb with hb; subst hb; exact hnf vs rfl) hs, rfl⟩
      exact FF.2.2
    · have hE4 : (((h₁.push to).update e (Obj.mapFields (·.setIfInBounds 1 (Value.ref h₁.objs.size)))).update h₁.objs.size (Obj.mapFields (·.setIfInBounds 3 ((none : Option Addr).elim Value.none fun f => rawInt f)))).get? e = some ⟨.ref 62, some dx, .fields (vs.setIfInBounds 1 (.ref h₁.objs.size)), #[]⟩ := by
        rw [Heap.get?_update_other _ _ hTe]; exact he₃
      have hT4 := Heap.get?_update_self (Obj.mapFields (·.setIfInBounds 3 ((none : Option Addr).elim Value.none fun f => rawInt f))) hT₃ (Obj.isFreed_of_fields (Obj.data_mapFields dto _))
      exact ⟨dx, _, h₁.objs.size, _, _, hE4, by simp [hsz], kb₁.fresh, hTe, hT4, Obj.data_mapFields dto _, by simp, hde, hdB, ns1_keep ns₁ fun o q _ => ⟨o.slots, keep _ _ hde q⟩⟩
  · intro b o hb hnf
    obtain ⟨sl, hs⟩ := hs₁.2.2 b o hb
    have hbe : b ≠ e := fun q => by rw [q, he] at hb; injection hb with hb; subst hb; exact hnf vs rfl
    refine ⟨sl, ?_⟩
    have hbT : h₁.objs.size ≠ b := Nat.ne_of_gt (Heap.lt_size hs)
    rw [Heap.get?_update_other _ _ hbT, Heap.get?_update_other _ _ (Ne.symm hbe)]
    exact Heap.get?_push_of_some _ hs

theorem leave_raiseD {base g h : Heap} {outer : List Env} {L a e t1 : Addr} {m : Str → Option Value} {name : Str} {scope : Scope} {cd v0 : Value} {x0 : Str} {mA : Str → Option Value} {Q : Unit → Shared → Prop} {news : List (Addr × Obj)}
    (K : Below A base outer g) (F : Fr g L h m) (N : News g L h news) (I : EI h s.heap e (flOf t1) mA) (h0 : mA x0 = some v0)
    (hQ : ∀ h', RaisedD base outer e mA news h' → g.UpToSlots h' → Q () { s with heap := h' }) (hk : scope.kind = .function := by rfl) :
    wpAny M (A.deeper (envOf name scope L a cd)) (leaving (envOf name scope L a cd) (.ref e)) Q E s := by
  have K' := K.push (name := name) (a := a) (cd := cd) F hk
  have hin : ∀ env ∈ (envOf name scope L a cd :: outer), ∀ b, env.frame = some b → b ∈ (envOf name scope L a cd :: outer).filterMap (·.frame) := fun env he b hb => List.mem_filterMap.mpr ⟨env, he, hb⟩
  have st : base.StaysIn (hideAll h ((envOf name scope L a cd :: outer).filterMap (·.frame))) := fun b o q => hideAll_get _ (K'.stays b o q) fun hm => by
    rw [(K'.frames.mem hm).1] at q; cases q
  have hl : ∀ q ∈ news, (hideAll h ((envOf name scope L a cd :: outer).filterMap (·.frame))).get? q.1 = some q.2 ∧ base.get? q.1 = none := fun q hq => by
    refine ⟨hideAll_get _ (N q hq).1 fun hm => ?_, fresh_of_stays K.stays (N q hq).2.2⟩
    obtain ⟨env, he, hf⟩ := List.mem_filterMap.mp hm
    rcases List.mem_cons.mp he with rfl | he
    · exact (N q hq).2.1 (Option.some.inj hf).symm
    · obtain ⟨o, ho, _⟩ := (K.frames.mem (List.mem_filterMap.mpr ⟨env, he, hf⟩)).2
      rw [(N q hq).2.2] at ho; cases ho
  have nn : ∀ b, h.get? b = none → (hideAll h ((envOf name scope L a cd :: outer).filterMap (·.frame))).get? b = none := fun b hb => by
    cases q : (hideAll h ((envOf name scope L a cd :: outer).filterMap (·.frame))).get? b with
    | none => rfl
    | some o => have := of_hideAll _ q; rw [hb] at this; cases this
  obtain ⟨hk1, hen, od, hx, hd⟩ := I
  rcases hd with ⟨_, hno⟩ | ⟨dx, rfl, hne, hdn, hns⟩
  · rw [hno x0] at h0; cases h0
  refine leaving_firstD (B := hideAll h ((envOf name scope L a cd :: outer).filterMap (·.frame))) K'.stack ((funFrames_hide K'.frames hin).of_keeps fun b o hb _ => ⟨o, hk1 b o hb, rfl⟩) rfl hx (fun b o hb => hk1 b o (of_hideAll _ hb)) (nn e hen) rfl hne (nn dx hdn) hns fun h' hL hU => ?_
  exact hQ h' ⟨_, st, hl, hL⟩ (((Heap.UpToSlots.of_keeps F.keep).trans (Heap.UpToSlots.of_keeps hk1)).trans hU)
end
end Mine
end
section
open PySem PySem.W PySem.Calls PyProof.Rows
namespace Mine
theorem typeCall_enum2 (a b : Value) : checkTypeCall "enumerate" ⟨[a, b], []⟩ = pure () := by kernel_rfl
theorem newCall_enum2 (a b : Value) : checkBuiltinCall "enumerate.__new__" ⟨[.type "enumerate", a, b], []⟩ = pure () := by kernel_rfl
set_option maxHeartbeats 1000000 in
set_option maxRecDepth 100000 in
theorem meets_enum1 (x : Str) (t u : Tok) :
    Meets (Builtin.«enumerate.__new__» ⟨[.type "enumerate", .str x t, .int 1 u], []⟩) (fun _ R s =>
      R (.ok (.ret (.ref (s.heap.push { cls := .type (strIterType x), data := .fields #[.str x t, .int 0 0] }).objs.size)))
        { s with heap := (s.heap.push { cls := .type (strIterType x), data := .fields #[.str x t, .int 0 0] }).push { cls := .type "enumerate", data := .fields #[.none, .bool false, .ref s.heap.objs.size, rawInt 1, .none, .none] } }) :=
  .of_wp fun prog w A R s h => by
    obtain ⟨hp, g, d, tk, os⟩ := s
    have hsub := sub_enumerate
    wp_walk
    refine wpAny_stack_any fun st => wpAny_pure ?_
    split
    · rename_i c _ _ _ _ _
      cases (c == Value.type "enumerate")
      · wp_walk using wpAny_pyIter_strU
        exact ⟨_, rfl, h⟩
      · wp_walk using wpAny_pyIter_strU
        exact ⟨_, rfl, h⟩
    · wp_walk using wpAny_pyIter_strU
      exact ⟨_, rfl, h⟩

theorem call_enum1 {prog : Program} {w : World} {A : Around} {E : Value → Shared → Prop} {s : Shared} {x : Str} {t u : Tok} {Q : Value → Shared → Prop}
    (h : ∀ h', IsEnum h' (s.heap.objs.size + 1) s.heap.objs.size 1 .none → h'.IsStrIter s.heap.objs.size (strIterType x) x t 0 → h'.objs.size = s.heap.objs.size + 2 →
      (∀ b o, s.heap.get? b = some o → h'.get? b = some o) → Q (.ref (s.heap.objs.size + 1)) { s with heap := h' }) :
    wpAny (model prog w) A (call (.type "enumerate") [.str x t, .int 1 u]) Q E s := by
  refine callType_new F.called_enumerate (by decide) (typeCall_enum2 _ _) (newCall_enum2 _ _) (fun obj => F.args_object_init_3 obj _ _) F.entry_enumerate_new
    (meets_enum1 x t u) ?_
  have hz : (s.heap.push { cls := .type (strIterType x), data := .fields #[.str x t, .int 0 0] }).objs.size = s.heap.objs.size + 1 := Heap.size_push ..
  show _ ∧ _
  rw [hz]
  have he : IsEnum ((s.heap.push { cls := .type (strIterType x), data := .fields #[.str x t, .int 0 0] }).push
      { cls := .type "enumerate", data := .fields #[.none, .bool false, .ref s.heap.objs.size, rawInt 1, .none, .none] }) (s.heap.objs.size + 1) s.heap.objs.size 1 .none := by
    have := Heap.get?_push_size (s.heap.push { cls := .type (strIterType x), data := .fields #[.str x t, .int 0 0] })
      (o := { cls := .type "enumerate", data := .fields #[.none, .bool false, .ref s.heap.objs.size, rawInt 1, .none, .none] }) rfl
    rw [hz] at this; exact this
  refine ⟨⟨_, he, rfl⟩, h _ he ⟨_, Heap.get?_push_of_some _ (Heap.get?_push_size _ rfl), rfl, rfl⟩ (by rw [Heap.size_push, hz]) fun b o y => Heap.get?_push_of_some _ (Heap.get?_push_of_some _ y)⟩

/-- the same draws, their places told from 1 on -/
theorem draws_up {prog : Program} {w : World} {A : Around} {it : Addr} {fp : List Addr} {n : Nat} {P : Nat → Value → Prop} {St : Nat → Heap → Prop} (D : Draws prog w A it fp n P St) :
    Draws prog w A it fp (n + 1) (fun i v => ∃ j, i = j + 1 ∧ P j v) (fun i h => ∃ j, i = j + 1 ∧ St j h) where
  live := fun i h ⟨j, _, st⟩ => D.live j h st
  frame := fun i h h' ⟨j, e, st⟩ hk => ⟨j, e, D.frame j h h' st hk⟩
  item := fun i s Q E hi ⟨j, e, st⟩ hQ => by
    subst e
    exact D.item j s Q E (Nat.lt_of_succ_lt_succ hi) st fun x h' tk hP st' hs => hQ x h' tk ⟨j, rfl, hP⟩ ⟨j + 1, rfl, st'⟩ hs
  done := fun s Q E ⟨j, e, st⟩ hE => by
    have e' : n = j := Nat.succ.inj e
    subst e'
    exact D.done s Q E st hE
theorem turns_down {prog : Program} {w : World} {A : Around} {target : Expr} {I : Addr} {fp wr : List Addr} {n : Nat} {P Md : Nat → Value → Heap → Prop} {St : Nat → Heap → Prop} (W : KTurns prog w A target I fp wr (n + 1) P Md St) :
    KTurns prog w A target I fp wr n (fun i => P (i + 1)) (fun i => Md (i + 1)) (fun i => St (i + 1)) where
  sub := W.sub
  frame := fun i => W.frame (i + 1)
  item := fun i s Q E hi st hQ => W.item (i + 1) s Q E (Nat.succ_lt_succ hi) st hQ
  go := fun i => W.go (i + 1)
  done := W.done
theorem draws_str {prog : Program} {w : World} {A : Around} (hh : A.handled = none) (it : Addr) (x : Str) (t : Tok) :
    Draws prog w A it [it] x.cps.size (fun i v => ∃ c u, x.cps[i]? = some c ∧ v = .str ⟨#[c]⟩ u) (fun i h => h.IsStrIter it (strIterType x) x t i) := by
  unfold strIterType
  split
  · exact Draws.strAscii hh it x t
  · exact Draws.strWide hh it x t

/-- the turns of enumerate(text, 1) -/
def enumS : Nat → List Nat → List Itm
  | _, [] => []
  | i, c :: r => .pairF (fun t => .int (i : Int) t) (.str ⟨#[c]⟩) :: enumS (i + 1) r
theorem enumS_length : ∀ (cs : List Nat) (a : Nat), (enumS a cs).length = cs.length
  | [], _ => rfl
  | _ :: r, a => congrArg (· + 1) (enumS_length r (a + 1))
theorem enumS_get : ∀ (cs : List Nat) (a i : Nat) {c : Nat}, cs[i]? = some c → (enumS a cs)[i]? = some (.pairF (fun t => .int ((a + i : Nat) : Int) t) (.str ⟨#[c]⟩))
  | [], _, _, _, h => by simp at h
  | x :: r, a, 0, c, h => by
    have e : x = c := by simpa using h
    subst e
    rfl
  | x :: r, a, i + 1, c, h => by
    have h' : r[i]? = some c := by simpa using h
    have q := enumS_get r (a + 1) i h'
    have e : a + 1 + i = a + (i + 1) := by omega
    rw [e] at q
    simpa [enumS] using q

theorem turns_enum1 {prog : Program} {w : World} {A : Around} {E : Value → Shared → Prop} {s : Shared} {env : Env} {h₀ : Heap} {body : List Stmt} {Q : Flow → Shared → Prop} {elts : List Expr} {k : Nat} {pos : Pos} {x : Str} {t u : Tok} {m₀ : Str → Option Value} {news : List (Addr × Obj)}
    (hh : A.handled = none) (F : Fr h₀ env.locals s.heap m₀) (N : News h₀ env.locals s.heap news)
    (rest₀ : ∀ I : Addr, (∀ p ∈ news, p.1 < I) → ItemsRest prog w A E h₀ env (.Tuple elts k pos) body Q s [(I + 1, "enumerate"), (I, strIterType x)] [] (enumS 1 x.cps.toList) m₀ news) :
    wpAny (model prog w) A (call (.type "enumerate") [.str x t, .int 1 u]) (fun xv s₁ => wpAny (model prog w) A (pyIter xv) (fun it s₂ => TurnsAt prog w A h₀ env (.Tuple elts k pos) body Q E it s₂) E s₁) E s := by
  have hLs : env.locals < s.heap.objs.size := F.ns.lt
  refine call_enum1 fun h' hE hI hsz hk => ?_
  refine wpAny_pyIter_enum hE ?_
  have D0 := draws_up (draws_str (prog := prog) (w := w) (A := A.in1) hh s.heap.objs.size x t)
  refine ktu_core (tk0 := s.toks) (keep := []) (turns_down (KTurns.ofWalksU (WalksT.enumerateD D0 (s.heap.objs.size + 1) (Nat.succ_ne_self _) (by simp) (by simp)).toU)) (by simp [enumS_length]) ?_ ?_ ?_ ?_ ?_ ?_ ?_ ?_ (F.keeps hk) (N.grown hk) trivial (rest₀ _ fun p hp => Heap.lt_size (N p hp).1)
  · rintro i v h ⟨T, vals, rfl, ⟨t', v', ⟨j, hj, c, u', hc, rfl⟩, rfl⟩, hT⟩
    have hj' : i = j := Nat.succ.inj hj
    subst hj'
    refine ⟨_, enumS_get x.cps.toList 1 i (c := c) (by simpa using hc), T, t', .str ⟨#[c]⟩ u', rfl, fun _ => .str _ _, ?_⟩
    rw [Nat.add_comm 1 i]
    exact hT
  · rintro i h ⟨⟨old, he⟩, j, hj, oi, hoi, hic, _⟩
    have he' : ∃ oe : Obj, h.get? (s.heap.objs.size + 1) = some oe ∧ oe.cls = .type "enumerate" := ⟨_, he, rfl⟩
    obtain ⟨oe, h1, h2⟩ := he'
    refine ⟨[(s.heap.objs.size + 1, oe), (s.heap.objs.size, oi)], ⟨⟨rfl, h2⟩, ⟨rfl, hic⟩, trivial⟩, fun p hp => ?_⟩
    rcases List.mem_cons.mp hp with rfl | hp
    · exact h1
    · rw [List.mem_singleton.mp hp]; exact hoi
  · intro b hb
    have hb' : b = s.heap.objs.size + 1 ∨ b = s.heap.objs.size := by simpa using hb
    rcases hb' with rfl | rfl
    · exact ⟨by simp, ktu_new F (Nat.le_add_right _ _)⟩
    · exact ⟨by simp, ktu_new F (Nat.le_refl _)⟩
  · intro b hb
    simpa using hb
  · intro b hb
    have hb' : b = s.heap.objs.size + 1 ∨ b = s.heap.objs.size := by simpa using hb
    rcases hb' with rfl | rfl
    · exact .inl (by simp)
    · exact .inl (by simp)
  · intro hI'
    have hb' : env.locals = s.heap.objs.size + 1 ∨ env.locals = s.heap.objs.size := by simpa using hI'
    rcases hb' with e | e
    · exact ktu_ne 1 hLs e
    · exact Nat.ne_of_lt hLs e
  · intro p hp hI'
    have hb' : p.1 = s.heap.objs.size + 1 ∨ p.1 = s.heap.objs.size := by simpa using hI'
    have hlp := Heap.lt_size (N p hp).1
    rcases hb' with e | e
    · exact ktu_ne 1 hlp e
    · exact Nat.ne_of_lt hlp e
  · exact ⟨⟨.none, hE⟩, 0, rfl, hI⟩

/-- a turn's end: the iterators and the ledger stand, the frame is as J says -/
def TurnEnd (h₀ : Heap) (L : Addr) (its news : List (Addr × Obj)) (J : (Str → Option Value) → Prop) (s₁ : Shared) (Q : Flow → Shared → Prop) (f : Flow) (s₂ : Shared) : Prop :=
  match f with
  | .ret v => Q (.ret v) s₂
  | .brk => Q .next s₂
  | _ => ∃ h' tk m', s₂ = { s₁ with heap := h', toks := tk } ∧ Fr h₀ L h' m' ∧ News h₀ L h' (its ++ news) ∧ J m'
theorem turnEnd_next {h₀ : Heap} {L : Addr} {its news : List (Addr × Obj)} {J : (Str → Option Value) → Prop} {s₁ : Shared} {Q : Flow → Shared → Prop} {h' : Heap} {tk : Nat} {m' : Str → Option Value} (F : Fr h₀ L h' m') (N : News h₀ L h' (its ++ news)) (hJ : J m') :
    TurnEnd h₀ L its news J s₁ Q .next { s₁ with heap := h', toks := tk } := ⟨h', tk, m', rfl, F, N, hJ⟩
theorem rest_enumS {prog : Program} {w : World} {A : Around} {E : Value → Shared → Prop} {s : Shared} {env : Env} {h₀ : Heap} {target : Expr} {body : List Stmt} {Q : Flow → Shared → Prop} {I : Addr} {ty : String} {news : List (Addr × Obj)}
    (J : Nat → List Nat → (Str → Option Value) → Prop) (hI : ∀ p ∈ news, p.1 < I)
    (step : ∀ j c r m, J j (c :: r) m → ∀ T t u h tk o1 o2, IsTup h T #[.int (j : Int) t, .str ⟨#[c]⟩ u] → Fr h₀ env.locals h m → News h₀ env.locals h ((I + 1, o1) :: (I, o2) :: news) →
      wpAny (model prog w) A (assign target env (.ref T)) (fun _ s₂ => wpAny (model prog w) A (execs body env) (TurnEnd h₀ env.locals [(I + 1, o1), (I, o2)] news (J (j + 1) r) { s with heap := h, toks := tk } Q) E s₂) E { s with heap := h, toks := tk })
    (done : ∀ j m, J j [] m → ∀ h tk, Fr h₀ env.locals h m → News h₀ env.locals h news → Q .next { s with heap := h, toks := tk }) :
    ∀ cs j m, J j cs m → ItemsRest prog w A E h₀ env target body Q s [(I + 1, "enumerate"), (I, ty)] [] (enumS j cs) m news := by
  intro cs
  induction cs with
  | nil => intro j m hJ; exact ItemsRest.zero fun h tk F N => done j m hJ h tk F N
  | cons c r ih =>
    intro j m hJ
    refine ItemsRest.pairF fun T t x h tk hx hT F => ?_
    obtain ⟨u, rfl⟩ := hx.str_inv
    refine AllObj.cons fun o1 _ => AllObj.cons fun o2 _ => AllObj.nil fun N => ?_
    refine wpAny_mono (step j c r m hJ T t u h tk o1 o2 hT F N) (fun _ s₂ h₂ => wpAny_mono h₂ (fun f s₃ h₃ => ?_) fun _ _ e => e) fun _ _ e => e
    have off : ∀ p ∈ news, ∀ q ∈ [(I + 1, o1), (I, o2)], p.1 ≠ q.1 := fun p hp q hq => by
      have := hI p hp
      rcases List.mem_cons.mp hq with rfl | hq
      · exact Nat.ne_of_lt (Nat.lt_succ_of_lt this)
      · rw [List.mem_singleton.mp hq]; exact Nat.ne_of_lt this
    cases f with
    | ret v => exact h₃
    | brk => exact h₃
    | next =>
      obtain ⟨h', tk', m', rfl, F', N', hJ'⟩ := h₃
      exact ⟨h', tk', m', news, rfl, F', N', off, trivial, ih (j + 1) m' hJ'⟩
    | cont =>
      obtain ⟨h', tk', m', rfl, F', N', hJ'⟩ := h₃
      exact ⟨h', tk', m', news, rfl, F', N', off, trivial, ih (j + 1) m' hJ'⟩
end Mine
end
section
open PySem PySem.W PySem.Calls PyProof.Rows
namespace Mine
noncomputable abbrev VW := hd.view_39
noncomputable abbrev LO : List Str := looseW hd.view_39 [Str.ofString "_CLASSES", Str.ofString "IDNAError", Str.ofString "check_bidi", Str.ofString "_law_signs", Str.ofString "_law_ways"]
/-- the signs of the law and their ways -/
def SIGNS : List (Nat × String) := [(97, "L"), (252, "L"), (55, "EN"), (1488, "R"), (1576, "AL"), (1635, "AN"), (1780, "EN"), (45, "ES"), (769, "NSM"), (183, "ON"), (122, "L"), (1514, "R"), (8204, "BN"), (58, "CS")]

/-- a call of bidirectional on a sign hands back its way -/
def BidiTells (w : World) (mean : ExcName → Option Value) (mg mb : Str → Option Value) (c : Nat) (way : String) : Prop :=
  ∀ (dp un : Nat) (gd : Option (List Code)) (cn : Str) (cs : Scope) (a : Addr) (ccd : Value) (cl : List (Str × Addr)) (outer : List Env) (A₀ : Around) (base h₀ : Heap) (L : Addr) (m : Str → Option Value) (s : Shared) (Q E : Value → Shared → Prop)
  (news : List (Addr × Obj)) (t : Tok),
  Below A₀ base outer h₀ → Fr h₀ L s.heap m → (hd.heap_39 w.params).In h₀ → News h₀ L s.heap news → Top VW LO mean mg mb h₀ → cs.kind = .function →
  dp + 1 < recursionLimit → un + 8 < cLine →
  (∀ (t : Tok) (h' : Heap) (tk' : Nat), Fr h₀ L h' m → News h₀ L h' news → Q (.str (Str.ofString way) t) { s with heap := h', toks := tk' }) →
      wpAny (model PySem.Challenge.rw_fc0083_01.row.prog w) (ktrTop dp un gd cn cs L a ccd cl outer) (call (.ref 22) [.str ⟨#[c]⟩ t]) Q E s

theorem occ_absurd {P : Prop} {x y : Str} {a b c : Nat} (h : (Builtin.Str.occurrences x y a b c).isEmpty = false) (h' : (Builtin.Str.occurrences x y a b c).isEmpty = true) : P := by rw [h'] at h; cases h
theorem occ_absurd' {P : Prop} {x y : Str} {a b c : Nat} (h : (Builtin.Str.occurrences x y a b c).isEmpty = true) (h' : (Builtin.Str.occurrences x y a b c).isEmpty = false) : P := by rw [h'] at h; cases h
local macro_rules | `(tactic| walk_at "ite") => `(tactic| (k_here; first | ((with_reducible refine ite_tt ?_); dsimp only) | ((with_reducible refine ite_ff ?_); dsimp only)))
theorem ord_lit {prog : Program} {w : World} {A : Around} {E : Value → Shared → Prop} {s : Shared} {c : Nat} {i : Int} {t : Tok} {Q : Value → Shared → Prop} (e : (c : Int) = i) (h : Q (.int i s.toks) { s with toks := s.toks + 1 }) : wpAny (model prog w) A (call (.builtin "ord") [.str ⟨#[c]⟩ t]) Q E s := by
  subst e
  exact P.ord_of_char h
local macro_rules | `(tactic| walk_at "ite") => `(tactic| (k_here; (with_reducible show (if (!(Builtin.Str.occurrences _ _ _ _ _).isEmpty) = true then _ else _)); first | refine ite_pos (by decide +kernel) ?_ | refine ite_neg (by decide +kernel) ?_))
local macro_rules | `(tactic| walk_at "call builtin:ord") => `(tactic| (k_here; refine ord_lit (c := 97) (i := 97) rfl ?_))
set_option maxRecDepth 100000 in
set_option maxHeartbeats 8000000 in
theorem bidi_97 {w : World} {mean : ExcName → Option Value} {mg mb : Str → Option Value} : BidiTells w mean mg mb 97 "L" := by
  intro dp un gd cn cs a ccd cl outer A₀ base h₀ L m s Q E news t B F X N T hk hd1 hu ret
  w_on
  revert X; k_fill; intro X
  refine wpAny_call ?_
  k_dflt cell_enter
  k_steps
  all_goals first
    | (refine' ret _ _ _ ?ra ?rb; (case ra => k_asm); (case rb => first | k_asm | (refine' cb_drop ?n9 ?s9; (case n9 => assumption); (case s9 => intro p9 hp9; repeat (first | exact hp9 | refine List.Mem.tail _ ?_)))))
    | ((with_reducible rename (Builtin.Str.occurrences _ _ _ _ _).isEmpty = false => hq9); exact occ_absurd hq9 (by decide +kernel))
    | ((with_reducible rename (Builtin.Str.occurrences _ _ _ _ _).isEmpty = true => hq9); exact occ_absurd' hq9 (by decide +kernel))
local macro_rules | `(tactic| walk_at "call builtin:ord") => `(tactic| (k_here; refine ord_lit (c := 252) (i := 252) rfl ?_))
set_option maxRecDepth 100000 in
set_option maxHeartbeats 8000000 in
theorem bidi_252 {w : World} {mean : ExcName → Option Value} {mg mb : Str → Option Value} : BidiTells w mean mg mb 252 "L" := by
  intro dp un gd cn cs a ccd cl outer A₀ base h₀ L m s Q E news t B F X N T hk hd1 hu ret
  w_on
  revert X; k_fill; intro X
  refine wpAny_call ?_
  k_dflt cell_enter
  k_steps
  all_goals first
    | (refine' ret _ _ _ ?ra ?rb; (case ra => k_asm); (case rb => first | k_asm | (refine' cb_drop ?n9 ?s9; (case n9 => assumption); (case s9 => intro p9 hp9; repeat (first | exact hp9 | refine List.Mem.tail _ ?_)))))
    | ((with_reducible rename (Builtin.Str.occurrences _ _ _ _ _).isEmpty = false => hq9); exact occ_absurd hq9 (by decide +kernel))
    | ((with_reducible rename (Builtin.Str.occurrences _ _ _ _ _).isEmpty = true => hq9); exact occ_absurd' hq9 (by decide +kernel))
local macro_rules | `(tactic| walk_at "call builtin:ord") => `(tactic| (k_here; refine ord_lit (c := 55) (i := 55) rfl ?_))
set_option maxRecDepth 100000 in
set_option maxHeartbeats 8000000 in
theorem bidi_55 {w : World} {mean : ExcName → Option Value} {mg mb : Str → Option Value} : BidiTells w mean mg mb 55 "EN" := by
  intro dp un gd cn cs a ccd cl outer A₀ base h₀ L m s Q E news t B F X N T hk hd1 hu ret
  w_on
  revert X; k_fill; intro X
  refine wpAny_call ?_
  k_dflt cell_enter
  k_steps
  all_goals first
    | (refine' ret _ _ _ ?ra ?rb; (case ra => k_asm); (case rb => first | k_asm | (refine' cb_drop ?n9 ?s9; (case n9 => assumption); (case s9 => intro p9 hp9; repeat (first | exact hp9 | refine List.Mem.tail _ ?_)))))
    | ((with_reducible rename (Builtin.Str.occurrences _ _ _ _ _).isEmpty = false => hq9); exact occ_absurd hq9 (by decide +kernel))
    | ((with_reducible rename (Builtin.Str.occurrences _ _ _ _ _).isEmpty = true => hq9); exact occ_absurd' hq9 (by decide +kernel))
local macro_rules | `(tactic| walk_at "call builtin:ord") => `(tactic| (k_here; refine ord_lit (c := 1488) (i := 1488) rfl ?_))
set_option maxRecDepth 100000 in
set_option maxHeartbeats 8000000 in
theorem bidi_1488 {w : World} {mean : ExcName → Option Value} {mg mb : Str → Option Value} : BidiTells w mean mg mb 1488 "R" := by
  intro dp un gd cn cs a ccd cl outer A₀ base h₀ L m s Q E news t B F X N T hk hd1 hu ret
  w_on
  revert X; k_fill; intro X
  refine wpAny_call ?_
  k_dflt cell_enter
  k_steps
  all_goals first
    | (refine' ret _ _ _ ?ra ?rb; (case ra => k_asm); (case rb => first | k_asm | (refine' cb_drop ?n9 ?s9; (case n9 => assumption); (case s9 => intro p9 hp9; repeat (first | exact hp9 | refine List.Mem.tail _ ?_)))))
    | ((with_reducible rename (Builtin.Str.occurrences _ _ _ _ _).isEmpty = false => hq9); exact occ_absurd hq9 (by decide +kernel))
    | ((with_reducible rename (Builtin.Str.occurrences _ _ _ _ _).isEmpty = true => hq9); exact occ_absurd' hq9 (by decide +kernel))
local macro_rules | `(tactic| walk_at "call builtin:ord") => `(tactic| (k_here; refine ord_lit (c := 1576) (i := 1576) rfl ?_))
set_option maxRecDepth 100000 in
set_option maxHeartbeats 8000000 in
theorem bidi_1576 {w : World} {mean : ExcName → Option Value} {mg mb : Str → Option Value} : BidiTells w mean mg mb 1576 "AL" := by
  intro dp un gd cn cs a ccd cl outer A₀ base h₀ L m s Q E news t B F X N T hk hd1 hu ret
  w_on
  revert X; k_fill; intro X
  refine wpAny_call ?_
  k_dflt cell_enter
  k_steps
  all_goals first
    | (refine' ret _ _ _ ?ra ?rb; (case ra => k_asm); (case rb => first | k_asm | (refine' cb_drop ?n9 ?s9; (case n9 => assumption); (case s9 => intro p9 hp9; repeat (first | exact hp9 | refine List.Mem.tail _ ?_)))))
    | ((with_reducible rename (Builtin.Str.occurrences _ _ _ _ _).isEmpty = false => hq9); exact occ_absurd hq9 (by decide +kernel))
    | ((with_reducible rename (Builtin.Str.occurrences _ _ _ _ _).isEmpty = true => hq9); exact occ_absurd' hq9 (by decide +kernel))
local macro_rules | `(tactic| walk_at "call builtin:ord") => `(tactic| (k_here; refine ord_lit (c := 1635) (i := 1635) rfl ?_))
set_option maxRecDepth 100000 in
set_option maxHeartbeats 8000000 in
theorem bidi_1635 {w : World} {mean : ExcName → Option Value} {mg mb : Str → Option Value} : BidiTells w mean mg mb 1635 "AN" := by
  intro dp un gd cn cs a ccd cl outer A₀ base h₀ L m s Q E news t B F X N T hk hd1 hu ret
  w_on
  revert X; k_fill; intro X
  refine wpAny_call ?_
  k_dflt cell_enter
  k_steps
  all_goals first
    | (refine' ret _ _ _ ?ra ?rb; (case ra => k_asm); (case rb => first | k_asm | (refine' cb_drop ?n9 ?s9; (case n9 => assumption); (case s9 => intro p9 hp9; repeat (first | exact hp9 | refine List.Mem.tail _ ?_)))))
    | ((with_reducible rename (Builtin.Str.occurrences _ _ _ _ _).isEmpty = false => hq9); exact occ_absurd hq9 (by decide +kernel))
    | ((with_reducible rename (Builtin.Str.occurrences _ _ _ _ _).isEmpty = true => hq9); exact occ_absurd' hq9 (by decide +kernel))
local macro_rules | `(tactic| walk_at "call builtin:ord") => `(tactic| (k_here; refine ord_lit (c := 1780) (i := 1780) rfl ?_))
set_option maxRecDepth 100000 in
set_option maxHeartbeats 8000000 in
theorem bidi_1780 {w : World} {mean : ExcName → Option Value} {mg mb : Str → Option Value} : BidiTells w mean mg mb 1780 "EN" := by
  intro dp un gd cn cs a ccd cl outer A₀ base h₀ L m s Q E news t B F X N T hk hd1 hu ret
  w_on
  revert X; k_fill; intro X
  refine wpAny_call ?_
  k_dflt cell_enter
  k_steps
  all_goals first
    | (refine' ret _ _ _ ?ra ?rb; (case ra => k_asm); (case rb => first | k_asm | (refine' cb_drop ?n9 ?s9; (case n9 => assumption); (case s9 => intro p9 hp9; repeat (first | exact hp9 | refine List.Mem.tail _ ?_)))))
    | ((with_reducible rename (Builtin.Str.occurrences _ _ _ _ _).isEmpty = false => hq9); exact occ_absurd hq9 (by decide +kernel))
    | ((with_reducible rename (Builtin.Str.occurrences _ _ _ _ _).isEmpty = true => hq9); exact occ_absurd' hq9 (by decide +kernel))
local macro_rules | `(tactic| walk_at "call builtin:ord") => `(tactic| (k_here; refine ord_lit (c := 45) (i := 45) rfl ?_))
set_option maxRecDepth 100000 in
set_option maxHeartbeats 8000000 in
theorem bidi_45 {w : World} {mean : ExcName → Option Value} {mg mb : Str → Option Value} : BidiTells w mean mg mb 45 "ES" := by
  intro dp un gd cn cs a ccd cl outer A₀ base h₀ L m s Q E news t B F X N T hk hd1 hu ret
  w_on
  revert X; k_fill; intro X
  refine wpAny_call ?_
  k_dflt cell_enter
  k_steps
  all_goals first
    | (refine' ret _ _ _ ?ra ?rb; (case ra => k_asm); (case rb => first | k_asm | (refine' cb_drop ?n9 ?s9; (case n9 => assumption); (case s9 => intro p9 hp9; repeat (first | exact hp9 | refine List.Mem.tail _ ?_)))))
    | ((with_reducible rename (Builtin.Str.occurrences _ _ _ _ _).isEmpty = false => hq9); exact occ_absurd hq9 (by decide +kernel))
    | ((with_reducible rename (Builtin.Str.occurrences _ _ _ _ _).isEmpty = true => hq9); exact occ_absurd' hq9 (by decide +kernel))
local macro_rules | `(tactic| walk_at "call builtin:ord") => `(tactic| (k_here; refine ord_lit (c := 769) (i := 769) rfl ?_))
set_option maxRecDepth 100000 in
set_option maxHeartbeats 8000000 in
theorem bidi_769 {w : World} {mean : ExcName → Option Value} {mg mb : Str → Option Value} : BidiTells w mean mg mb 769 "NSM" := by
  intro dp un gd cn cs a ccd cl outer A₀ base h₀ L m s Q E news t B F X N T hk hd1 hu ret
  w_on
  revert X; k_fill; intro X
  refine wpAny_call ?_
  k_dflt cell_enter
  k_steps
  all_goals first
    | (refine' ret _ _ _ ?ra ?rb; (case ra => k_asm); (case rb => first | k_asm | (refine' cb_drop ?n9 ?s9; (case n9 => assumption); (case s9 => intro p9 hp9; repeat (first | exact hp9 | refine List.Mem.tail _ ?_)))))
    | ((with_reducible rename (Builtin.Str.occurrences _ _ _ _ _).isEmpty = false => hq9); exact occ_absurd hq9 (by decide +kernel))
    | ((with_reducible rename (Builtin.Str.occurrences _ _ _ _ _).isEmpty = true => hq9); exact occ_absurd' hq9 (by decide +kernel))
local macro_rules | `(tactic| walk_at "call builtin:ord") => `(tactic| (k_here; refine ord_lit (c := 183) (i := 183) rfl ?_))
set_option maxRecDepth 100000 in
set_option maxHeartbeats 8000000 in
theorem bidi_183 {w : World} {mean : ExcName → Option Value} {mg mb : Str → Option Value} : BidiTells w mean mg mb 183 "ON" := by
  intro dp un gd cn cs a ccd cl outer A₀ base h₀ L m s Q E news t B F X N T hk hd1 hu ret
  w_on
  revert X; k_fill; intro X
  refine wpAny_call ?_
  k_dflt cell_enter
  k_steps
  all_goals first
    | (refine' ret _ _ _ ?ra ?rb; (case ra => k_asm); (case rb => first | k_asm | (refine' cb_drop ?n9 ?s9; (case n9 => assumption); (case s9 => intro p9 hp9; repeat (first | exact hp9 | refine List.Mem.tail _ ?_)))))
    | ((with_reducible rename (Builtin.Str.occurrences _ _ _ _ _).isEmpty = false => hq9); exact occ_absurd hq9 (by decide +kernel))
    | ((with_reducible rename (Builtin.Str.occurrences _ _ _ _ _).isEmpty = true => hq9); exact occ_absurd' hq9 (by decide +kernel))
local macro_rules | `(tactic| walk_at "call builtin:ord") => `(tactic| (k_here; refine ord_lit (c := 122) (i := 122) rfl ?_))
set_option maxRecDepth 100000 in
set_option maxHeartbeats 8000000 in
theorem bidi_122 {w : World} {mean : ExcName → Option Value} {mg mb : Str → Option Value} : BidiTells w mean mg mb 122 "L" := by
  intro dp un gd cn cs a ccd cl outer A₀ base h₀ L m s Q E news t B F X N T hk hd1 hu ret
  w_on
  revert X; k_fill; intro X
  refine wpAny_call ?_
  k_dflt cell_enter
  k_steps
  all_goals first
    | (refine' ret _ _ _ ?ra ?rb; (case ra => k_asm); (case rb => first | k_asm | (refine' cb_drop ?n9 ?s9; (case n9 => assumption); (case s9 => intro p9 hp9; repeat (first | exact hp9 | refine List.Mem.tail _ ?_)))))
    | ((with_reducible rename (Builtin.Str.occurrences _ _ _ _ _).isEmpty = false => hq9); exact occ_absurd hq9 (by decide +kernel))
    | ((with_reducible rename (Builtin.Str.occurrences _ _ _ _ _).isEmpty = true => hq9); exact occ_absurd' hq9 (by decide +kernel))
local macro_rules | `(tactic| walk_at "call builtin:ord") => `(tactic| (k_here; refine ord_lit (c := 1514) (i := 1514) rfl ?_))
set_option maxRecDepth 100000 in
set_option maxHeartbeats 8000000 in
theorem bidi_1514 {w : World} {mean : ExcName → Option Value} {mg mb : Str → Option Value} : BidiTells w mean mg mb 1514 "R" := by
  intro dp un gd cn cs a ccd cl outer A₀ base h₀ L m s Q E news t B F X N T hk hd1 hu ret
  w_on
  revert X; k_fill; intro X
  refine wpAny_call ?_
  k_dflt cell_enter
  k_steps
  all_goals first
    | (refine' ret _ _ _ ?ra ?rb; (case ra => k_asm); (case rb => first | k_asm | (refine' cb_drop ?n9 ?s9; (case n9 => assumption); (case s9 => intro p9 hp9; repeat (first | exact hp9 | refine List.Mem.tail _ ?_)))))
    | ((with_reducible rename (Builtin.Str.occurrences _ _ _ _ _).isEmpty = false => hq9); exact occ_absurd hq9 (by decide +kernel))
    | ((with_reducible rename (Builtin.Str.occurrences _ _ _ _ _).isEmpty = true => hq9); exact occ_absurd' hq9 (by decide +kernel))
local macro_rules | `(tactic| walk_at "call builtin:ord") => `(tactic| (k_here; refine ord_lit (c := 8204) (i := 8204) rfl ?_))
set_option maxRecDepth 100000 in
set_option maxHeartbeats 8000000 in
theorem bidi_8204 {w : World} {mean : ExcName → Option Value} {mg mb : Str → Option Value} : BidiTells w mean mg mb 8204 "BN" := by
  intro dp un gd cn cs a ccd cl outer A₀ base h₀ L m s Q E news t B F X N T hk hd1 hu ret
  w_on
  revert X; k_fill; intro X
  refine wpAny_call ?_
  k_dflt cell_enter
  k_steps
  all_goals first
    | (refine' ret _ _ _ ?ra ?rb; (case ra => k_asm); (case rb => first | k_asm | (refine' cb_drop ?n9 ?s9; (case n9 => assumption); (case s9 => intro p9 hp9; repeat (first | exact hp9 | refine List.Mem.tail _ ?_)))))
    | ((with_reducible rename (Builtin.Str.occurrences _ _ _ _ _).isEmpty = false => hq9); exact occ_absurd hq9 (by decide +kernel))
    | ((with_reducible rename (Builtin.Str.occurrences _ _ _ _ _).isEmpty = true => hq9); exact occ_absurd' hq9 (by decide +kernel))
local macro_rules | `(tactic| walk_at "call builtin:ord") => `(tactic| (k_here; refine ord_lit (c := 58) (i := 58) rfl ?_))
set_option maxRecDepth 100000 in
set_option maxHeartbeats 8000000 in
theorem bidi_58 {w : World} {mean : ExcName → Option Value} {mg mb : Str → Option Value} : BidiTells w mean mg mb 58 "CS" := by
  intro dp un gd cn cs a ccd cl outer A₀ base h₀ L m s Q E news t B F X N T hk hd1 hu ret
  w_on
  revert X; k_fill; intro X
  refine wpAny_call ?_
  k_dflt cell_enter
  k_steps
  all_goals first
    | (refine' ret _ _ _ ?ra ?rb; (case ra => k_asm); (case rb => first | k_asm | (refine' cb_drop ?n9 ?s9; (case n9 => assumption); (case s9 => intro p9 hp9; repeat (first | exact hp9 | refine List.Mem.tail _ ?_)))))
    | ((with_reducible rename (Builtin.Str.occurrences _ _ _ _ _).isEmpty = false => hq9); exact occ_absurd hq9 (by decide +kernel))
    | ((with_reducible rename (Builtin.Str.occurrences _ _ _ _ _).isEmpty = true => hq9); exact occ_absurd' hq9 (by decide +kernel))
theorem bidi_tells {w : World} {mean : ExcName → Option Value} {mg mb : Str → Option Value} : ∀ p ∈ SIGNS, BidiTells w mean mg mb p.1 p.2 := by
  intro p hp
  simp only [SIGNS, List.mem_cons, List.not_mem_nil, or_false] at hp
  rcases hp with rfl | rfl | rfl | rfl | rfl | rfl | rfl | rfl | rfl | rfl | rfl | rfl | rfl | rfl
  · exact bidi_97
  · exact bidi_252
  · exact bidi_55
  · exact bidi_1488
  · exact bidi_1576
  · exact bidi_1635
  · exact bidi_1780
  · exact bidi_45
  · exact bidi_769
  · exact bidi_183
  · exact bidi_122
  · exact bidi_1514
  · exact bidi_8204
  · exact bidi_58
end Mine
end
section
open PySem PySem.W PySem.W.X PySem.Calls PyProof.Rows
namespace Mine
def MadeE (K : Frag) (E : Value → Shared → Prop) (v : Value) (s₁ : Shared) : Prop :=
  ∃ e t1, v = .ref e ∧ K.In s₁.heap ∧ (∃ od, s₁.heap.get? e = some ⟨.ref 62, od, .fields (flOf t1), #[]⟩) ∧ E (.ref e) s₁
theorem Raise_D {M : Model} {A : Around} {E : Value → Shared → Prop} {s : Shared} {env : Env} {e : Expr} {pos : Pos} {Q : Flow → Shared → Prop} {K : Frag} {cd : ClassData} {dd : Option Addr} {sl : Array (Option Value)}
    (hh : A.handled = none) (hK : K.lookup 62 = some ⟨.type "type", dd, .cls cd, sl⟩) (hsub : mroIn K 62 (.type "BaseException") = some true)
    (h : wpAny M A (eval e env) (MadeE K E) E s) : wpAny M A (exec (.Raise (some e) none pos) env) Q E s := by
  show wpAny M A (do standAt pos; raiseStmt env (some (do let v ← eval e env; standAt pos; pure v)) none) Q E s
  refine wpAny_bind (wpAny_standAt ?_)
  refine raise_made hh hK hsub ?_
  exact wpAny_bind (wpAny_mono h (fun v s₁ h₁ => wpAny_bind (wpAny_standAt (wpAny_pure h₁))) fun _ _ x => x)
theorem exc_callA {w : World} {A : Around} {fr : List Env} (hh : A.handled = none) (hf : A.frames = some fr) (hdp : A.depth ≤ 400) (hun : A.units ≤ 4000) {s : Shared} {E : Value → Shared → Prop}
  {msg c x : Str} {t tc tx tn tp : Tok} {n p : Int} (X : (hd.heap_39 w.params).In s.heap) (hlim : s.heap.NoLimit) :
   wpAny (MD w) A (call (.ref 62) [.str msg t] (kwOf c x n p tc tx tn tp))
     (ExcIs s.heap s.gens s.drawn s.os (attrsOf (.str c tc) (.str x tx) (.int n tn) (.int p tp))) E s := by
  obtain ⟨h', dp, frs, gd, un⟩ := A
  simp only at hh hf hdp hun
  subst hf
  obtain ⟨hp, g, d, tk, os⟩ := s
  exact exc_call dp un h' hh fr gd hdp hun hp g d tk os E msg c x t tc tx tn tp n p X hlim
/-- a made exception leaves the function -/
theorem exc_raise {w : World} {A₀ : Around} {base g : Heap} {outer : List Env} {L a : Addr} {m : Str → Option Value} {name : Str} {scope : Scope} {cd : Value} {Ex : Value → Shared → Prop} {news : List (Addr × Obj)} {Ac : Around} {fr : List Env} {s : Shared} {E' : Value → Shared → Prop}
  {msg c x : Str} {t tc tx tn tp : Tok} {n p : Int}
  (hh : Ac.handled = none) (hf : Ac.frames = some fr) (hdp : Ac.depth ≤ 400) (hun : Ac.units ≤ 4000) (hk : scope.kind = .function)
  (K : Below A₀ base outer g) (F : Fr g L s.heap m) (N : News g L s.heap news) (X : (hd.heap_39 w.params).In g) (hlim : g.NoLimit)
  (hQ : ∀ e h' tk', RaisedD base outer e (attrsOf (.str c tc) (.str x tx) (.int n tn) (.int p tp)) news h' → g.UpToSlots h' → Ex (.ref e) { s with heap := h', toks := tk' }) :
   wpAny (MD w) Ac (call (.ref 62) [.str msg t] (kwOf c x n p tc tx tn tp))
     (MadeE (hd.heap_39 w.params) (fun e s' => wpAny (MD w) (A₀.deeper (envOf name scope L a cd)) (leaving (envOf name scope L a cd) e) (fun _ s'' => Ex e s'') (fun e' s'' => Ex e' s'') s')) E' s := by
  have X' : (hd.heap_39 w.params).In s.heap := Frag.In.keeps X (Fr.keep F)
  refine wpAny_mono (exc_callA (E := E') hh hf hdp hun X' (let ⟨mc, a, b⟩ := hlim; ⟨mc, a.keeps (Fr.keep F), b⟩)) ?_ fun _ _ h => h
  rintro v s' ⟨e, t1, h', tk', rfl, rfl, I⟩
  refine ⟨e, t1, rfl, Frag.In.keeps X' I.keep, ?_, ?_⟩
  · obtain ⟨od, h1, _⟩ := I.obj
    exact ⟨od, h1⟩
  · exact leave_raiseD (x0 := Str.ofString "code") K F N I rfl (fun h'' hR hU => hQ e h'' tk' hR hU) hk
theorem K62 (P : Params) : ∃ dd cd sl, (hd.heap_39 P).lookup 62 = some ⟨.type "type", dd, .cls cd, sl⟩ ∧ mroIn (hd.heap_39 P) 62 (.type "BaseException") = some true := by
  refine ⟨_, _, _, rfl, ?_⟩
  first | rfl | kernel_rfl
theorem Raise_62 {w : World} {A : Around} {E : Value → Shared → Prop} {s : Shared} {g : Heap} {env : Env} {e : Expr} {pos : Pos} {Q : Flow → Shared → Prop} (_ : (hd.heap_39 w.params).In g)
    (hh : A.handled = none) (h : wpAny (MD w) A (eval e env) (MadeE (hd.heap_39 w.params) E) E s) : wpAny (MD w) A (exec (.Raise (some e) none pos) env) Q E s := by
  obtain ⟨dd, cd, sl, h1, h2⟩ := K62 w.params
  exact Raise_D hh h1 h2 h
end Mine
end
section
open PySem PySem.W PySem.Calls PyProof.Rows
namespace Mine
theorem way_of : ∀ p ∈ SIGNS, p.2 = "L" ∨ p.2 = "R" ∨ p.2 = "AL" ∨ p.2 = "AN" ∨ p.2 = "EN" ∨ p.2 = "ES" ∨ p.2 = "CS" ∨ p.2 = "ON" ∨ p.2 = "BN" ∨ p.2 = "NSM" := by decide
theorem sign_facts : ∀ p ∈ SIGNS, (Str.ofString p.2 == Str.ofString "") = false ∧ [Str.ofString "R", Str.ofString "AL", Str.ofString "AN"].any (· == Str.ofString p.2) = isRtl p.2 ∧
    (!([Str.ofString "L", Str.ofString "EN", Str.ofString "ES", Str.ofString "CS", Str.ofString "ET", Str.ofString "ON", Str.ofString "BN", Str.ofString "NSM"].any (· == Str.ofString p.2))) = isRtl p.2 ∧
    [Str.ofString "L", Str.ofString "EN"].any (· == Str.ofString p.2) = (p.2 == "L" || p.2 == "EN") ∧ (Str.ofString p.2 != Str.ofString "NSM") = (p.2 != "NSM") ∧
    (!([Str.ofString "R", Str.ofString "AL", Str.ofString "AN", Str.ofString "EN", Str.ofString "ES", Str.ofString "CS", Str.ofString "ET", Str.ofString "ON", Str.ofString "BN", Str.ofString "NSM"].any (· == Str.ofString p.2))) = (p.2 == "L") ∧
    [Str.ofString "R", Str.ofString "AL", Str.ofString "EN", Str.ofString "AN"].any (· == Str.ofString p.2) = (p.2 == "R" || p.2 == "AL" || p.2 == "EN" || p.2 == "AN") ∧
    [Str.ofString "AN", Str.ofString "EN"].any (· == Str.ofString p.2) = (p.2 == "AN" || p.2 == "EN") ∧ [Str.ofString "R", Str.ofString "AL"].any (· == Str.ofString p.2) = (p.2 == "R" || p.2 == "AL") ∧
    (Str.ofString p.2 == Str.ofString "L") = (p.2 == "L") := by decide +kernel
theorem eq_strB {prog : Program} {w : World} {A : Around} {E : Value → Shared → Prop} {s : Shared} {x y : Str} {t u : Tok} {Q : Value → Shared → Prop} {b : Bool} (hb : (x == y) = b) (h : Q (.bool b) s) : wpAny (model prog w) A (compareOp .Eq (.str x t) (.str y u)) Q E s := by
  subst hb; exact PyProof.Rows.eq_str h
theorem ne_strF {prog : Program} {w : World} {A : Around} {E : Value → Shared → Prop} {s : Shared} {x y : Str} {t u : Tok} {Q : Value → Shared → Prop} {b : Bool} (hb : (x != y) = b) (h : Q (.bool b) s) : wpAny (model prog w) A (compareOp .NotEq (.str x t) (.str y u)) Q E s := by
  subst hb; exact PyProof.Rows.ne_str h
local macro_rules | `(tactic| walk_at "compareOp Eq str str") => `(tactic| (k_here; (with_reducible show wpAny _ _ (compareOp CmpOp.Eq (Value.str _ _) (Value.str _ _)) _ _ _); (with_reducible refine' eq_strB ?k1 ?_; (case k1 => assumption); k_whole)))
local macro_rules | `(tactic| walk_at "compareOp NotEq str str") => `(tactic| (k_here; (with_reducible show wpAny _ _ (compareOp CmpOp.NotEq (Value.str _ _) (Value.str _ _)) _ _ _); (with_reducible refine' ne_strF ?k1 ?_; (case k1 => assumption); k_whole)))
def J1 (x : Str) (t : Tok) (asked : Bool) (ps : List (Nat × String)) (j : Nat) (cs : List Nat) (m : Str → Option Value) : Prop :=
  ∃ d r, ps = d ++ r ∧ cs = r.map Prod.fst ∧ j = d.length + 1 ∧ m (Str.ofString "label") = some (.str x t) ∧ m (Str.ofString "check_ltr") = some (.bool asked) ∧
    m (Str.ofString "bidi_label") = some (.bool (d.any fun p => isRtl p.2))
theorem j1_map {x : Str} {t : Tok} {asked b : Bool} {m : Str → Option Value} (h1 : m (Str.ofString "label") = some (.str x t)) (h2 : m (Str.ofString "check_ltr") = some (.bool asked)) (h3 : m (Str.ofString "bidi_label") = some (.bool b)) :
    m = fun y => if y = Str.ofString "label" then some (.str x t) else if y = Str.ofString "check_ltr" then some (.bool asked) else if y = Str.ofString "bidi_label" then some (.bool b) else m y := by
  funext y
  split
  · subst y; exact h1
  · split
    · subst y; exact h2
    · split
      · subst y; exact h3
      · rfl
theorem bidi_use {w : World} {mean : ExcName → Option Value} {mg mb : Str → Option Value} {c : Nat} {way : String} {dp un : Nat} {gd : Option (List Code)} {cn : Str} {cs : Scope} {a : Addr} {ccd : Value} {cl : List (Str × Addr)} {outer : List Env} {A₀ : Around} {base h₀ : Heap} {L : Addr} {m : Str → Option Value} {s : Shared} {Q E : Value → Shared → Prop}
  {news : List (Addr × Obj)} {t : Tok} (hb : BidiTells w mean mg mb c way) (B : Below A₀ base outer h₀) (F : Fr h₀ L s.heap m) (X : (hd.heap_39 w.params).In h₀) (N : News h₀ L s.heap news) (T : Top VW LO mean mg mb h₀) (hk : cs.kind = .function)
  (hd1 : dp + 1 < recursionLimit) (hu : un + 8 < cLine)
  (ret : ∀ (t : Tok) (h' : Heap) (tk' : Nat), Fr h₀ L h' m → News h₀ L h' news → Q (.str (Str.ofString way) t) { s with heap := h', toks := tk' }) :
      wpAny (model PySem.Challenge.rw_fc0083_01.row.prog w) (ktrTop dp un gd cn cs L a ccd cl outer) (call (.ref 22) [.str ⟨#[c]⟩ t]) Q E s :=
  hb dp un gd cn cs a ccd cl outer A₀ base h₀ L m s Q E news t B F X N T hk hd1 hu ret
local macro_rules | `(tactic| walk_at "exec For Tuple Call cons nil") => `(tactic| (k_here; (rename Fr _ _ _ _ => lF'); (with_unfolding_all refine' For_turns lF' ?_; k_whole)))
local macro_rules | `(tactic| walk_at "call type:enumerate") => `(tactic| (k_here; (with_reducible show wpAny _ _ (call (Value.type _) [Value.str _ _, Value.int _ _]) (fun xv s₁ => wpAny _ _ (pyIter xv) (fun it s₂ => TurnsAt _ _ _ _ _ _ _ _ _ it s₂) _ s₁) _ _); (rename Fr _ _ _ _ => lF'); (rename News _ _ _ _ => lN'); (with_unfolding_all refine' turns_enum1 ?k1 lF' lN' ?_; (case k1 => exact rfl); k_whole); intro I9 hI9))
local macro_rules | `(tactic| walk_at "call ref") => `(tactic| (k_here; (with_reducible show wpAny _ _ (call (Value.ref 22) [Value.str _ _]) _ _ _); (with_reducible rename BidiTells _ _ _ _ _ _ => hb9); (refine' bidi_use hb9 ?k1 ?k2 ?k3 ?k4 ?k5 ?k6 ?k7 ?k8 ?_; (case k1 => k_asm); (case k2 => k_asm); (case k3 => k_asm); (case k4 => k_asm); (case k5 => k_asm); (case k6 => exact rfl); (case k7 => ktr_room); (case k8 => ktr_units); k_whole; intro t9 h9 tk9 F9 N9)))
theorem in_tupS {prog : Program} {w : World} {A : Around} {E : Value → Shared → Prop} {s : Shared} {t : Addr} {items : Array Value} {ys : List Str} {x : Str} {u : Tok} {Q : Value → Shared → Prop} (b : Bool) (ht : IsTup s.heap t items) (hi : StrsAre items.toList ys) (hb : ys.any (· == x) = b)
    (h : Q (.bool b) s) : wpAny (model prog w) A (compareOp .In (.str x u) (.ref t)) Q E s := by
  subst hb; exact in_tuple_strs ht hi h
theorem notin_tupS {prog : Program} {w : World} {A : Around} {E : Value → Shared → Prop} {s : Shared} {t : Addr} {items : Array Value} {ys : List Str} {x : Str} {u : Tok} {Q : Value → Shared → Prop} (b : Bool) (ht : IsTup s.heap t items) (hi : StrsAre items.toList ys) (hb : (!(ys.any (· == x))) = b)
    (h : Q (.bool b) s) : wpAny (model prog w) A (compareOp .NotIn (.str x u) (.ref t)) Q E s := by
  subst hb; exact notin_tuple_strs ht hi h
local macro_rules | `(tactic| walk_at "compareOp In str ref") => `(tactic| (k_here; (with_reducible show wpAny _ _ (compareOp CmpOp.In (Value.str _ _) (Value.ref _)) _ _ _); first
  | (with_unfolding_all refine' in_tupS _ ?k1 ?k2 ?k3 ?_; (case k1 => exact kun_topT (by k_asm) (by k_asm) (by k_is)); (case k2 => kde_strs); (case k3 => assumption); k_whole)
  | (with_unfolding_all refine' in_tupS true ?k1 ?k2 ?k3 ?_; (case k1 => exact kun_topT (by k_asm) (by k_asm) (by k_is)); (case k2 => kde_strs); (case k3 => decide +kernel); k_whole)
  | (with_unfolding_all refine' in_tupS false ?k1 ?k2 ?k3 ?_; (case k1 => exact kun_topT (by k_asm) (by k_asm) (by k_is)); (case k2 => kde_strs); (case k3 => decide +kernel); k_whole)))
local macro_rules | `(tactic| walk_at "compareOp NotIn str ref") => `(tactic| (k_here; (with_reducible show wpAny _ _ (compareOp CmpOp.NotIn (Value.str _ _) (Value.ref _)) _ _ _); first
  | (with_unfolding_all refine' notin_tupS _ ?k1 ?k2 ?k3 ?_; (case k1 => exact kun_topT (by k_asm) (by k_asm) (by k_is)); (case k2 => kde_strs); (case k3 => assumption); k_whole)
  | (with_unfolding_all refine' notin_tupS true ?k1 ?k2 ?k3 ?_; (case k1 => exact kun_topT (by k_asm) (by k_asm) (by k_is)); (case k2 => kde_strs); (case k3 => decide +kernel); k_whole)
  | (with_unfolding_all refine' notin_tupS false ?k1 ?k2 ?k3 ?_; (case k1 => exact kun_topT (by k_asm) (by k_asm) (by k_is)); (case k2 => kde_strs); (case k3 => decide +kernel); k_whole)))
local macro_rules | `(tactic| walk_at "ite") => `(tactic| (k_here; first | ((with_reducible refine ite_tt ?_); dsimp only) | ((with_reducible refine ite_ff ?_); dsimp only)))
/-- the text's sign at i -/
def ItemIs (x : Str) (i : Int) (c : Nat) : Prop := fitsSsize i = true ∧ -(x.length : Int) ≤ i ∧ i < x.length ∧ Txt.item x i = ⟨#[c]⟩
theorem itemIs_of {x : Str} {l : List Nat} (hx : x.cps.toList = l) (hl : l.length ≤ 7) (i : Nat) {c : Nat} (h : l[i]? = some c) : ItemIs x (i : Int) c := by
  have hi : i < l.length := (List.getElem?_eq_some_iff.mp h).1
  have hxl : x.length = l.length := by subst hx; exact Array.length_toList.symm
  refine ⟨fitsSsize_of (N := 9223372036854775808) (by omega) (by omega) (Int.le_refl _), by omega, by omega, ?_⟩
  unfold Txt.item Txt.charAt seqIndex?
  have h2 : x.cps[i]? = some c := by rw [← Array.getElem?_toList, hx]; exact h
  have h3 : ¬ ((i : Int) < 0) := by omega
  simp [h3, hxl, hi, h2]
theorem item_at {prog : Program} {w : World} {A : Around} {E : Value → Shared → Prop} {s : Shared} {value slice : PySem.Expr} {x : Str} {t u : Tok} {i : Int} {c : Nat} {Q : Value → Shared → Prop} (hi : ItemIs x i c)
    (h : Q (.str ⟨#[c]⟩ s.toks) { s with toks := s.toks + 1 })
    (hs : subscripted slice false (.str x t) (.int i u) = operate [.str x t, .int i u] (getItem (.str x t) (.int i u)) := by with_unfolding_all rfl)
    (ht : ∀ r, letTemporaryGo value (.str x t) r = pure () := by intro _; with_unfolding_all rfl) :
    wpAny (model prog w) A (subscriptTail value slice (.str x t) (.int i u)) Q E s :=
  item_str hi.1 hi.2.1 hi.2.2.1 (fun _ => by rw [hi.2.2.2]; exact h) hs ht
local macro_rules | `(tactic| walk_at "subscriptTail Name Constant str int") => `(tactic| (k_here; (with_reducible show wpAny _ _ (subscriptTail _ _ (Value.str _ _) (Value.int _ _)) _ _ _); (with_reducible rename ItemIs _ _ _ => hi9); (with_unfolding_all refine' item_at hi9 ?_ ?ks ?kt; (case ks => with_unfolding_all rfl); (case kt => (intro _; with_unfolding_all rfl)); k_whole)))
local macro_rules | `(tactic| walk_at "subscriptTail Name BinOp str int") => `(tactic| (k_here; (with_reducible show wpAny _ _ (subscriptTail _ _ (Value.str _ _) (Value.int _ _)) _ _ _); (with_reducible rename ItemIs _ _ _ => hi9); (with_unfolding_all refine' item_at hi9 ?_ ?ks ?kt; (case ks => with_unfolding_all rfl); (case kt => (intro _; with_unfolding_all rfl)); k_whole)))
local macro_rules | `(tactic| walk_at "exec Raise some none") => `(tactic| (k_here; (with_reducible rename (hd.heap_39 _).In _ => X9); (with_unfolding_all refine' Raise_62 X9 ?k1 ?_; (case k1 => exact rfl); k_whole)))
/-- the text is short when shown -/
def ShownIs (x : Str) : Prop := (reprText x).length ≤ 72
theorem shownIs_of {x : Str} {ps : List (Nat × String)} (hx : x.cps.toList = ps.map Prod.fst) (hl : ps.length ≤ 7) (hps : ∀ p ∈ ps, p ∈ SIGNS) : ShownIs x := by
  have hxl : x.length = ps.length := by rw [← List.length_map (as := ps) Prod.fst, ← hx]; exact Array.length_toList.symm
  have h := StrLaws.reprText_len x fun c hc => by
    rw [hx] at hc
    obtain ⟨p, hp, rfl⟩ := List.mem_map.mp hc
    have : ∀ p ∈ SIGNS, p.1 < 16 ^ 8 := by decide +kernel
    exact this p (hps p hp)
  unfold ShownIs
  omega
theorem repr_shown {prog : Program} {w : World} {A : Around} {E : Value → Shared → Prop} {s : Shared} {x : Str} {t : Tok} {Q : Value → Shared → Prop} (hs : ShownIs x)
    (h : ∀ y : Str, y.length ≤ 72 → Q (.str y s.toks) { s with toks := s.toks + 1 }) : wpAny (model prog w) A (pyReprObj (.str x t)) Q E s :=
  wpAny_pyReprObj_str (h _ hs) (Nat.le_trans hs (by rw [sizeLine_eq]; decide))
local macro_rules | `(tactic| walk_at "pyReprObj str") => `(tactic| (k_here; (with_reducible rename ShownIs _ => hs9); (with_unfolding_all refine' repr_shown hs9 ?_; k_whole); intro y9 hy9))
theorem joinNil3 {M : Model} {A : Around} {E : Value → Shared → Prop} {s : Shared} {o a b c : Str} {Q : Value → Shared → Prop} (ho : o = Str.empty) (ha : a.length ≤ 100) (hb : b.length ≤ 100) (hc : c.length ≤ 100) (h : ∀ z : Str, Q (.str z s.toks) { s with toks := s.toks + 1 }) : wpAny M A (joinParts (o ++ a ++ b ++ c) []) Q E s := by
  subst ho
  have e : ∀ p q : Str, (p ++ q).length = p.length + q.length := fun p q => Array.size_append
  have e0 : Str.empty.length = 0 := rfl
  have e1 := sizeLine_eq
  have e2 : (Str.empty ++ a ++ b ++ c).length = a.length + b.length + c.length := by rw [e, e, e, e0, Nat.zero_add]
  exact joinParts_nil (h _) (hsz := by omega)
local macro_rules | `(tactic| walk_at "joinParts") => `(tactic| (k_here; (first | (with_reducible show wpAny _ _ (joinParts _ []) _ _ _) | (with_reducible refine joinParts_nilE ?_)); (with_reducible refine' joinNil3 ?k0 ?k1 ?k2 ?k3 ?_; (case k0 => exact rfl); (case k1 => decide +kernel); (case k2 => first | (with_reducible assumption) | (refine Nat.le_trans ?_ (by decide : 72 ≤ 100); with_reducible assumption)); (case k3 => decide +kernel); k_whole); intro z9))
local macro_rules | `(tactic| walk_at "joinParts") => `(tactic| (k_here; (first | (with_reducible show wpAny _ _ (joinParts _ (evalEach (_ :: _) _)) _ _ _); (with_reducible refine joinParts_consE ?_) | (with_reducible show wpAny _ _ (joinParts _ (_ :: _)) _ _ _)); (with_reducible refine joinParts_cons ?_); dsimp only))
local macro_rules | `(tactic| walk_at "call ref") => `(tactic| (k_here; (with_reducible show wpAny _ _ (call (Value.ref 62) [Value.str _ _] _) _ _ _); (try dsimp only); (refine' exc_raise ?k1 ?k2 ?k3 ?k4 ?k5 ?k6 ?k7 ?k8 ?k9 ?kA ?_; (case k1 => exact rfl); (case k2 => exact rfl); (case k3 => (try dsimp only [Around.deeper]); omega); (case k4 => (try dsimp only [Around.deeper]); omega); (case k5 => exact rfl); (case k6 => k_asm); (case k7 => k_asm); (case k8 => (refine' cb_drop ?n9 ?s9; (case n9 => assumption); (case s9 => intro p9 hp9; repeat (first | exact hp9 | refine List.Mem.tail _ ?_)))); (case k9 => assumption); (case kA => exact Top.nolimit (by assumption)); intro e9 h9 tk9 hR9 hU9)))

theorem map1 {m : Str → Option Value} {k1 : Str} {v1 : Value} (h1 : m k1 = some v1) : m = fun y => if y = k1 then some v1 else m y := by
  funext y; split
  · subst y; exact h1
  · rfl
theorem map2 {m : Str → Option Value} {k1 k2 : Str} {v1 v2 : Value} (h1 : m k1 = some v1) (h2 : m k2 = some v2) : m = fun y => if y = k1 then some v1 else if y = k2 then some v2 else m y := by
  funext y; split
  · subst y; exact h1
  · split
    · subst y; exact h2
    · rfl
theorem map3 {m : Str → Option Value} {k1 k2 k3 : Str} {v1 v2 v3 : Value} (h1 : m k1 = some v1) (h2 : m k2 = some v2) (h3 : m k3 = some v3) : m = fun y => if y = k1 then some v1 else if y = k2 then some v2 else if y = k3 then some v3 else m y := by
  funext y; split
  · subst y; exact h1
  · split
    · subst y; exact h2
    · split
      · subst y; exact h3
      · rfl
theorem map4 {m : Str → Option Value} {k1 k2 k3 k4 : Str} {v1 v2 v3 v4 : Value} (h1 : m k1 = some v1) (h2 : m k2 = some v2) (h3 : m k3 = some v3) (h4 : m k4 = some v4) : m = fun y => if y = k1 then some v1 else if y = k2 then some v2 else if y = k3 then some v3 else if y = k4 then some v4 else m y := by
  funext y; split
  · subst y; exact h1
  · split
    · subst y; exact h2
    · split
      · subst y; exact h3
      · split
        · subst y; exact h4
        · rfl
def numV : Option String → Tok → Value
  | none, _ => .none
  | some w, t => .str (Str.ofString w) t
def J2R (x : Str) (t : Tok) (ps : List (Nat × String)) (v : Option (String × Nat)) (j : Nat) (cs : List Nat) (m : Str → Option Value) : Prop :=
  ∃ d r num tn ve ei te, ps = d ++ r ∧ cs = r.map Prod.fst ∧ j = d.length + 1 ∧ m (Str.ofString "label") = some (.str x t) ∧ m (Str.ofString "rtl") = some (.bool true) ∧
    m (Str.ofString "valid_ending") = some (.bool ve) ∧ m (Str.ofString "ending_idx") = some (.int (ei : Nat) te) ∧ m (Str.ofString "number_type") = some (numV num tn) ∧ (num = none ∨ num = some "AN" ∨ num = some "EN") ∧
    1 ≤ ei ∧ ei ≤ ps.length ∧ v = scanR (r.map Prod.snd) j num ve ei
def J2L (x : Str) (t : Tok) (ps : List (Nat × String)) (v : Option (String × Nat)) (j : Nat) (cs : List Nat) (m : Str → Option Value) : Prop :=
  ∃ d r ve ei te, ps = d ++ r ∧ cs = r.map Prod.fst ∧ j = d.length + 1 ∧ m (Str.ofString "label") = some (.str x t) ∧ m (Str.ofString "rtl") = some (.bool false) ∧
    m (Str.ofString "valid_ending") = some (.bool ve) ∧ m (Str.ofString "ending_idx") = some (.int (ei : Nat) te) ∧
    1 ≤ ei ∧ ei ≤ ps.length ∧ v = scanL (r.map Prod.snd) j ve ei
def Cut (P : Shared → Prop) (Q : Flow → Shared → Prop) (f : Flow) (s₁ : Shared) : Prop := match f with
  | .next => P s₁
  | f => Q f s₁
theorem field_small {prog : Program} {w : World} {A : Around} {E : Value → Shared → Prop} {s : Shared} {a : Int} {t : Tok} {Q : Value → Shared → Prop} (h0 : 0 ≤ a) (h1 : a < 100)
    (h : ∀ y : Str, y.length ≤ 72 → Q (.str y (s.toks + 1)) { s with toks := s.toks + 1 + 1 }) : wpAny (model prog w) A (formatField (.int a t) Str.empty) Q E s :=
  wpAny_formatField_int (shown (N := 2 ^ 1920) (by omega) (by omega) (Int.le_refl _)) (h _ (Nat.le_trans (toString_length_le h0 (k := 2) (by decide) (by omega)) (by decide)))
local macro_rules | `(tactic| walk_at "formatField int") => `(tactic| (k_here; (with_reducible show wpAny _ _ (formatField (Value.int _ _) _) _ _ _); (refine' field_small ?k1 ?k2 ?_; (case k1 => omega); (case k2 => omega); k_whole); intro y9 hy9; dsimp only))
theorem RaisedD.drop {base : Heap} {l : List Env} {e : Addr} {mA : Str → Option Value} {news news' : List (Addr × Obj)} {h : Heap} (R : RaisedD base l e mA news' h) (hs : ∀ p ∈ news, p ∈ news') : RaisedD base l e mA news h :=
  let ⟨B, a, b, c⟩ := R; ⟨B, a, fun q hq => b q (hs q hq), c⟩
theorem cut_stmt {M : Model} {A : Around} {E : Value → Shared → Prop} {s : Shared} {st : Stmt} {rest : List Stmt} {env : Env} {Q : Flow → Shared → Prop} (P : Shared → Prop)
    (h1 : wpAny M A (exec st env) (Cut P Q) E s) (h2 : ∀ s₁, P s₁ → wpAny M A (execs rest env) Q E s₁) : wpAny M A (execs (st :: rest) env) Q E s := by
  refine wpAny_execs_cons (wpAny_mono h1 (fun f s₁ h => ?_) fun _ _ h => h)
  cases f
  case next => exact h2 s₁ h
  all_goals exact h
set_option maxRecDepth 100000 in
set_option maxHeartbeats 80000000 in
theorem check_tells {w : World} {mean : ExcName → Option Value} {mg mb : Str → Option Value}
  (dp un : Nat) (gd : Option (List Code)) (cn : Str) (cs : Scope) (a : Addr) (ccd : Value) (cl : List (Str × Addr)) (outer : List Env) (A₀ : Around) (base h₀ : Heap) (L : Addr) (m : Str → Option Value) (s : Shared) (Q E : Value → Shared → Prop)
  (news : List (Addr × Obj)) (t : Tok) (x : Str) (asked : Bool) (hx : x.length ≤ 7) (ps : List (Nat × String)) (hps : ∀ p ∈ ps, p ∈ SIGNS) (hxp : x.cps.toList = ps.map Prod.fst)
  (B : Below A₀ base outer h₀) (F : Fr h₀ L s.heap m) (X : (hd.heap_39 w.params).In h₀) (N : News h₀ L s.heap news) (T : Top VW LO mean mg mb h₀) (hk : cs.kind = .function)
  (hd1 : dp < 350) (hu : un < 3000) (hne : ps ≠ [])
  (hlen : ps.length ≤ 7) (args : List Value) (hargs : args = [.str x t, .bool asked] ∨ args = [.str x t] ∧ asked = false)
  (ret : chk (ps.map (·.2)) asked = none → ∀ (h' : Heap) (tk' : Nat), Fr h₀ L h' m → News h₀ L h' news → Q (.bool true) { s with heap := h', toks := tk' })
  (exc : ∀ code pos cp, chk (ps.map (·.2)) asked = some (code, pos) → 1 ≤ pos → (ps.map (·.1))[pos - 1]? = some cp → ∀ g e h' tk' tc tx tn tp, Fr h₀ L g m → g.UpToSlots h' →
    RaisedD base (envX cn cs L a ccd cl :: outer) e (attrsOf (.str (Str.ofString code) tc) (.str x tx) (.int (cp : Nat) tn) (.int (pos : Nat) tp)) news h' → E (.ref e) { s with heap := h', toks := tk' }) :
      wpAny (model PySem.Challenge.rw_fc0083_01.row.prog w) (ktrTop dp un gd cn cs L a ccd cl outer) (call (.ref 72) args) Q E s := by
  have hd2 : dp + 1 < recursionLimit := by unfold recursionLimit; omega
  have hsh : ShownIs x := shownIs_of hxp hlen hps
  have hu2 : un + 8 < cLine := by unfold cLine; omega
  w_on
  revert X; k_fill; intro X
  refine wpAny_call ?_
  k_dflt (refine' code_def (binds := [(Str.ofString "label", .str x t), (Str.ofString "check_ltr", .bool asked)]) ?k1 ?k2 ?k3 ?k4 ?k5 ?kA ?kF ?kK ?k6 ?k7 ?k8 ?k9 ?kB ?_ ?c2 ?c3 ?c4 ?c5; (case kA => exact rfl); (case kF => exact rfl); (case kK => assumption); (case k1 => k_asm); (case k2 => k_asm); (case k3 => k_asm); (case k4 => k_asm); (case k5 => k_asm); (case k6 => k_is); (case k7 => k_is); (case k8 => ktr_room); (case k9 => (rcases hargs with rfl | ⟨rfl, rfl⟩ <;> exact kp_binds (Frag.In.keeps X (Fr.keep F)) (fun _ => rfl))); (case c5 => decide); (case kB => exact locs rfl); (case c2 => exact rfl); (case c3 => exact rfl); (case c4 => exact rfl); k_whole; intro g' L' h' FG' F' N' B' X' T'; (try dsimp only); (try k_lift B'); (try k_fold))
  k_steps
  rw [hxp]
  with_reducible rename ∀ p ∈ news, p.1 < _ => hI
  refine rest_enumS (J1 x t asked ps) hI ?step ?done (ps.map Prod.fst) 1 _ ⟨[], ps, rfl, rfl, rfl, rfl, rfl, rfl⟩
  case done =>
    intro j m1 hJ h1 tk1 F1 N1
    obtain ⟨d, ⟨⟩ | ⟨p', r'⟩, hp, hr, hj, a1, a2, a3⟩ := hJ
    case cons => simp at hr
    rw [List.append_nil] at hp
    subst hp
    rw [j1_map a1 a2 a3] at F1
    refine cut_stmt (fun s₁ => ((ps.any fun p => isRtl p.2) || asked) = true ∧ ∃ h2 tk2 m2, s₁ = { s with heap := h2, toks := tk2 } ∧ Fr g' L' h2 m2 ∧ m2 (Str.ofString "label") = some (.str x t) ∧ News g' L' h2 news) ?_ ?_
    · cases hany : ps.any fun p => isRtl p.2 <;> rw [hany] at F1 <;> cases asked
      all_goals k_steps
      · (try dsimp only [Cut])
        (try k_steps)
        refine' ret ?rc _ _ ?ra ?rb
        (case rc => simp only [chk, List.any_map]; rw [show (isRtl ∘ fun p : Nat × String => p.2) = fun p => isRtl p.2 from rfl, hany]; rfl)
        (case ra => k_asm)
        (case rb => first | k_asm | (refine' cb_drop ?n9 ?s9; (case n9 => assumption); (case s9 => intro p9 hp9; repeat (first | exact hp9 | refine List.Mem.tail _ ?_))))
      all_goals exact ⟨rfl, _, _, _, rfl, by k_asm, rfl, by k_asm⟩
    rintro s₁ ⟨hgo, h2, tk2, m2, rfl, F2, b1, N2⟩
    cases ps with
    | nil => exact absurd rfl hne
    | cons p0 rest =>
    obtain ⟨c0, w0⟩ := p0
    have hin : (c0, w0) ∈ SIGNS := hps _ (by simp)
    have hchk : chk (((c0, w0) :: rest).map (·.2)) asked = if w0 == "R" || w0 == "AL" then scanR (((c0, w0) :: rest).map (·.2)) 1 none false 1 else if w0 == "L" then scanL (((c0, w0) :: rest).map (·.2)) 1 false 1 else some ("bidi_rule_1", 1) := by
      have h1 : (!((((c0, w0) :: rest).map (·.2)).any isRtl) && !asked) = false := by
        rw [List.any_map, show (isRtl ∘ fun p : Nat × String => p.2) = fun p => isRtl p.2 from rfl, ← Bool.not_or, hgo]; rfl
      refine (if_neg (by rw [h1]; decide) : (if (!((((c0, w0) :: rest).map (·.2)).any isRtl) && !asked) = true then none else _) = _)
    refine cut_stmt (fun s₁ => ∃ h3 tk3 m3 t3, s₁ = { s with heap := h3, toks := tk3 } ∧ Fr g' L' h3 m3 ∧ m3 (Str.ofString "label") = some (.str x t) ∧ m3 (Str.ofString "direction") = some (.str (Str.ofString w0) t3) ∧ News g' L' h3 news) ?_ ?_
    · have hb : BidiTells w mean mg mb c0 w0 := bidi_tells _ hin
      have hIt : ItemIs x 0 c0 := itemIs_of hxp (by simpa using hlen) 0 rfl
      rw [map1 b1] at F2
      k_steps
      all_goals exact ⟨_, _, _, _, rfl, by k_asm, rfl, rfl, by k_asm⟩
    rintro s₁ ⟨h3, tk3, m3, t3, rfl, F3, b2, b3, N3⟩
    rw [map2 b2 b3] at F3
    refine cut_stmt (fun s₁ => ∃ h4 tk4 m4, s₁ = { s with heap := h4, toks := tk4 } ∧ Fr g' L' h4 m4 ∧ m4 (Str.ofString "label") = some (.str x t) ∧ m4 (Str.ofString "rtl") = some (.bool (w0 == "R" || w0 == "AL")) ∧ News g' L' h4 news ∧ ((w0 == "R" || w0 == "AL") || w0 == "L") = true) ?_ ?_
    · have hway := way_of _ hin
      have hIt : ItemIs x 0 c0 := itemIs_of hxp (by simpa using hlen) 0 rfl
      obtain ⟨-, -, -, -, -, -, -, -, f9, f10⟩ := sign_facts _ hin
      dsimp only at f9 f10
      cases hF : (w0 == "R" || w0 == "AL")
      · rw [hF] at f9
        cases hL : (w0 == "L")
        all_goals rw [hL] at f10
        all_goals k_steps
        all_goals first
          | exact ⟨_, _, _, rfl, by k_asm, rfl, rfl, by k_asm, rfl⟩
          | exact exc "bidi_rule_1" 1 c0 (by rw [hchk, hF, hL]; rfl) (Nat.le_refl _) rfl _ _ _ _ _ _ _ _ FG' (by assumption) (RaisedD.drop (by assumption) (by intro p9 hp9; repeat (first | exact hp9 | refine List.Mem.tail _ ?_)))
      · rw [hF] at f9
        k_steps
        exact ⟨_, _, _, rfl, by k_asm, rfl, rfl, by k_asm, rfl⟩
    rintro s₁ ⟨h4, tk4, m4, rfl, F4, b4, b5, N4, hw0⟩
    cases hr0 : (w0 == "R" || w0 == "AL")
    · rw [hr0] at b5 hchk
      rw [map2 b4 b5] at F4
      have hw1 : (w0 == "L") = true := by rw [hr0] at hw0; exact hw0
      rw [hw1] at hchk
      replace hchk : chk (((c0, w0) :: rest).map (·.2)) asked = scanL (((c0, w0) :: rest).map (·.2)) 1 false 1 := hchk
      generalize (c0, w0) :: rest = ps at *
      k_steps
      rw [hxp]
      with_reducible rename ∀ p ∈ news, p.1 < _ => hI2
      refine rest_enumS (J2L x t ps (chk (ps.map (·.2)) asked)) hI2 ?step2 ?done2 (ps.map Prod.fst) 1 _ ⟨[], ps, false, 1, _, rfl, rfl, rfl, rfl, rfl, rfl, rfl, Nat.le_refl _, List.length_pos_iff.mpr hne, hchk⟩
      case done2 =>
        intro j m1 hJ h1 tk1 F1 N1
        obtain ⟨d, ⟨⟩ | ⟨p', r'⟩, ve, ei, te, hp, hr, hj, a1, a2, a4, a5, hl, hu', hc⟩ := hJ
        rotate_left 1
        · simp at hr
        simp [scanL] at hc
        rw [map4 a1 a2 a4 a5] at F1
        obtain ⟨ce, hce⟩ : ∃ ce, (ps.map (·.1))[ei - 1]? = some ce := ⟨_, List.getElem?_eq_getElem (by rw [List.length_map]; omega)⟩
        have hIt : ItemIs x ((ei : Int) - 1) ce := by
          have h := itemIs_of hxp (by simpa using hlen) (ei - 1) hce
          rwa [show ((ei - 1 : Nat) : Int) = (ei : Int) - 1 from by omega] at h
        cases ve
        · simp at hc
          k_steps
          all_goals exact exc "bidi_rule_6" ei ce hc hl hce _ _ _ _ _ _ _ _ FG' (by assumption) (RaisedD.drop (by assumption) (by intro p9 hp9; repeat (first | exact hp9 | refine List.Mem.tail _ ?_)))
        · simp at hc
          k_steps
          refine' ret hc _ _ ?ra ?rb
          (case ra => k_asm)
          (case rb => first | k_asm | (refine' cb_drop ?n9 ?s9; (case n9 => assumption); (case s9 => intro p9 hp9; repeat (first | exact hp9 | refine List.Mem.tail _ ?_))))
      case step2 =>
        intro j c r m1 hJ T1 t1 u1 h1 tk1 o1 o2 hT1 F1 N1
        obtain ⟨d, ⟨⟩ | ⟨⟨c', way⟩, r'⟩, ve, ei, te, hp, hr, hj, a1, a2, a4, a5, hl, hu', hc⟩ := hJ
        · simp at hr
        simp only [List.map_cons, List.cons.injEq] at hr
        obtain ⟨rfl, rfl⟩ := hr
        have hin : (c, way) ∈ SIGNS := hps _ (by rw [hp]; simp)
        have hb : BidiTells w mean mg mb c way := bidi_tells _ hin
        have hj1 : 1 ≤ j := by omega
        have hj2 : j ≤ ps.length := by rw [hp, List.length_append, List.length_cons]; omega
        have hjg : (ps.map (·.1))[j - 1]? = some c := by rw [hp, hj]; simp
        simp only [List.map_cons] at hc
        have hway := way_of _ hin
        dsimp only at hway
        obtain ⟨-, -, f3, f4, f5, -⟩ := sign_facts _ hin
        dsimp only at f3 f4 f5
        rw [map2 a1 a2] at F1
        cases hR : isRtl way
        · rw [hR] at f3
          cases hV : (way == "L" || way == "EN")
          · rw [hV] at f4
            replace f5 : (Str.ofString way != Str.ofString "NSM") = !(way == "NSM") := f5
            cases hM : (way == "NSM")
            all_goals rw [hM] at f5
            all_goals first | replace f5 : _ = true := f5 | replace f5 : _ = false := f5
            all_goals simp only [scanL, hR, hV, hM, if_true, if_false, Bool.false_eq_true] at hc
            all_goals k_steps
            all_goals first
              | exact turnEnd_next (by k_asm) (by k_asm) ⟨d ++ [(c, _)], r', _, _, _, by rw [hp, List.append_assoc]; rfl, rfl, by rw [hj, List.length_append]; rfl, rfl, rfl, by first | rfl | exact a4, by first | rfl | exact a5, by first | assumption | exact hj1, by first | assumption | exact hj2, hc⟩
          · rw [hV] at f4
            have hM : (way == "NSM") = false := by
              cases h : way == "NSM"
              · rfl
              · have e : way = "NSM" := by simpa using h
                subst e; revert hV; decide
            simp only [scanL, hR, hV, hM, if_true, if_false, Bool.false_eq_true] at hc
            k_steps
            first
              | exact turnEnd_next (by k_asm) (by k_asm) ⟨d ++ [(c, _)], r', _, _, _, by rw [hp, List.append_assoc]; rfl, rfl, by rw [hj, List.length_append]; rfl, rfl, rfl, by first | rfl | exact a4, by first | rfl | exact a5, by first | assumption | exact hj1, by first | assumption | exact hj2, hc⟩
        · rw [hR] at f3
          simp only [scanL, hR, if_true] at hc
          k_steps
          first
            | exact exc "bidi_rule_5" j c hc hj1 hjg _ _ _ _ _ _ _ _ FG' (by assumption) (RaisedD.drop (by assumption) (by intro p9 hp9; repeat (first | exact hp9 | refine List.Mem.tail _ ?_)))
    · rw [hr0] at b5 hchk
      rw [map2 b4 b5] at F4
      replace hchk : chk (((c0, w0) :: rest).map (·.2)) asked = scanR (((c0, w0) :: rest).map (·.2)) 1 none false 1 := hchk
      generalize (c0, w0) :: rest = ps at *
      k_steps
      rw [hxp]
      with_reducible rename ∀ p ∈ news, p.1 < _ => hI2
      refine rest_enumS (J2R x t ps (chk (ps.map (·.2)) asked)) hI2 ?step2 ?done2 (ps.map Prod.fst) 1 _ ⟨[], ps, none, 0, false, 1, _, rfl, rfl, rfl, rfl, rfl, rfl, rfl, rfl, .inl rfl, Nat.le_refl _, List.length_pos_iff.mpr hne, hchk⟩
      case done2 =>
        intro j m1 hJ h1 tk1 F1 N1
        obtain ⟨d, ⟨⟩ | ⟨p', r'⟩, num, tn, ve, ei, te, hp, hr, hj, a1, a2, a4, a5, a3, hnum, hl, hu', hc⟩ := hJ
        rotate_left 1
        · simp at hr
        simp [scanR] at hc
        rw [map4 a1 a2 a4 a5] at F1
        obtain ⟨ce, hce⟩ : ∃ ce, (ps.map (·.1))[ei - 1]? = some ce := ⟨_, List.getElem?_eq_getElem (by rw [List.length_map]; omega)⟩
        have hIt : ItemIs x ((ei : Int) - 1) ce := by
          have h := itemIs_of hxp (by simpa using hlen) (ei - 1) hce
          rwa [show ((ei - 1 : Nat) : Int) = (ei : Int) - 1 from by omega] at h
        cases ve
        · simp at hc
          k_steps
          all_goals exact exc "bidi_rule_3" ei ce hc hl hce _ _ _ _ _ _ _ _ FG' (by assumption) (RaisedD.drop (by assumption) (by intro p9 hp9; repeat (first | exact hp9 | refine List.Mem.tail _ ?_)))
        · simp at hc
          k_steps
          refine' ret hc _ _ ?ra ?rb
          (case ra => k_asm)
          (case rb => first | k_asm | (refine' cb_drop ?n9 ?s9; (case n9 => assumption); (case s9 => intro p9 hp9; repeat (first | exact hp9 | refine List.Mem.tail _ ?_))))
      case step2 =>
        intro j c r m1 hJ T1 t1 u1 h1 tk1 o1 o2 hT1 F1 N1
        obtain ⟨d, ⟨⟩ | ⟨⟨c', way⟩, r'⟩, num, tn, ve, ei, te, hp, hr, hj, a1, a2, a4, a5, a3, hnum, hl, hu', hc⟩ := hJ
        · simp at hr
        simp only [List.map_cons, List.cons.injEq] at hr
        obtain ⟨rfl, rfl⟩ := hr
        have hin : (c, way) ∈ SIGNS := hps _ (by rw [hp]; simp)
        have hb : BidiTells w mean mg mb c way := bidi_tells _ hin
        have hj1 : 1 ≤ j := by omega
        have hj2 : j ≤ ps.length := by rw [hp, List.length_append, List.length_cons]; omega
        have hjg : (ps.map (·.1))[j - 1]? = some c := by rw [hp, hj]; simp
        simp only [List.map_cons] at hc
        have hway := way_of _ hin
        dsimp only at hway
        by_cases hN : way = "AN" ∨ way = "EN"
        · rcases hN with rfl | rfl <;> rcases hnum with rfl | rfl | rfl
          all_goals simp [scanR] at hc
          all_goals dsimp only [numV] at a3
          all_goals rw [map3 a1 a2 a3] at F1
          all_goals k_steps
          all_goals first
            | exact turnEnd_next (by k_asm) (by k_asm) ⟨d ++ [(c, _)], r', _, _, _, _, _, by rw [hp, List.append_assoc]; rfl, rfl, by rw [hj, List.length_append]; rfl, rfl, rfl, by first | rfl | exact a4, by first | rfl | exact a5, by first | rfl | exact a3, by simp, by first | assumption | exact hj1, by first | assumption | exact hj2, hc⟩
            | exact exc "bidi_rule_4" j c hc hj1 hjg _ _ _ _ _ _ _ _ FG' (by assumption) (RaisedD.drop (by assumption) (by intro p9 hp9; repeat (first | exact hp9 | refine List.Mem.tail _ ?_)))
        obtain ⟨-, -, -, -, f5, f6, f7, f8, -, -⟩ := sign_facts _ hin
        dsimp only at f5 f6 f7 f8
        have hNf : (way == "AN" || way == "EN") = false := by simpa using hN
        rw [hNf] at f8
        rw [map2 a1 a2] at F1
        cases hL : (way == "L")
        · rw [hL] at f6
          cases hV : (way == "R" || way == "AL" || way == "EN" || way == "AN")
          · rw [hV] at f7
            replace f5 : (Str.ofString way != Str.ofString "NSM") = !(way == "NSM") := f5
            cases hM : (way == "NSM")
            all_goals rw [hM] at f5
            all_goals first | replace f5 : _ = true := f5 | replace f5 : _ = false := f5
            all_goals simp only [scanR, hL, hNf, hV, hM, if_true, if_false, Bool.false_eq_true] at hc
            all_goals k_steps
            all_goals first
              | exact turnEnd_next (by k_asm) (by k_asm) ⟨d ++ [(c, _)], r', _, _, _, _, _, by rw [hp, List.append_assoc]; rfl, rfl, by rw [hj, List.length_append]; rfl, rfl, rfl, by first | rfl | exact a4, by first | rfl | exact a5, by first | rfl | exact a3, hnum, by first | assumption | exact hj1, by first | assumption | exact hj2, hc⟩
          · rw [hV] at f7
            have hM : (way == "NSM") = false := by
              cases h : way == "NSM"
              · rfl
              · have e : way = "NSM" := by simpa using h
                subst e; revert hV; decide
            simp only [scanR, hL, hNf, hV, hM, if_true, if_false, Bool.false_eq_true] at hc
            k_steps
            first
              | exact turnEnd_next (by k_asm) (by k_asm) ⟨d ++ [(c, _)], r', _, _, _, _, _, by rw [hp, List.append_assoc]; rfl, rfl, by rw [hj, List.length_append]; rfl, rfl, rfl, by first | rfl | exact a4, by first | rfl | exact a5, by first | rfl | exact a3, hnum, by first | assumption | exact hj1, by first | assumption | exact hj2, hc⟩
        · rw [hL] at f6
          simp only [scanR, hL, if_true] at hc
          k_steps
          first
            | exact exc "bidi_rule_2" j c hc hj1 hjg _ _ _ _ _ _ _ _ FG' (by assumption) (RaisedD.drop (by assumption) (by intro p9 hp9; repeat (first | exact hp9 | refine List.Mem.tail _ ?_)))
  case step =>
    intro j c r m1 hJ T1 t1 u1 h1 tk1 o1 o2 hT1 F1 N1
    obtain ⟨d, ⟨⟩ | ⟨⟨c', way⟩, r'⟩, hp, hr, hj, a1, a2, a3⟩ := hJ
    · simp at hr
    simp only [List.map_cons, List.cons.injEq] at hr
    obtain ⟨rfl, rfl⟩ := hr
    have hin : (c, way) ∈ SIGNS := hps _ (by rw [hp]; simp)
    have hb : BidiTells w mean mg mb c way := bidi_tells _ hin
    rw [j1_map a1 a2 a3] at F1
    have hway := way_of _ hin
    dsimp only at hway
    obtain ⟨f1, f2, -⟩ := sign_facts _ hin
    dsimp only at f1 f2
    cases hR : isRtl way
    all_goals rw [hR] at f2
    all_goals k_steps
    all_goals refine turnEnd_next (by k_asm) (by k_asm) ⟨d ++ [(c, _)], r', by rw [hp, List.append_assoc]; rfl, rfl, by rw [hj, List.length_append]; rfl, rfl, rfl, ?_⟩
    all_goals first | (show some (Value.bool true) = _; simp [hR]; done) | (show some (Value.bool (d.any _)) = _; simp [hR]; done)
    done
end Mine
end
section
open PySem PySem.W PySem.Calls PyProof.Rows PyProof.Rows.LCg
namespace Mine
/-- the turns of enumerate(list), with an invariant -/
theorem rest_enumL {prog : Program} {w : World} {A : Around} {E : Value → Shared → Prop} {s : Shared} {env : Env} {h₀ : Heap} {target : Expr} {body : List Stmt} {Q : Flow → Shared → Prop} {I : Addr} {ty : String} {l : Addr} {lo : Obj} {news : List (Addr × Obj)}
    (J : Nat → List Value → (Str → Option Value) → Prop) (hI : ∀ p ∈ news, p.1 < I) (hm : (l, lo) ∈ news)
    (step : ∀ j v r m, J j (v :: r) m → ∀ T t h tk o1 o2, IsTup h T #[.int (j : Int) t, v] → Fr h₀ env.locals h m → News h₀ env.locals h ((I + 1, o1) :: (I, o2) :: news) →
      wpAny (model prog w) A (assign target env (.ref T)) (fun _ s₂ => wpAny (model prog w) A (execs body env) (TurnEnd h₀ env.locals [(I + 1, o1), (I, o2)] news (J (j + 1) r) { s with heap := h, toks := tk } Q) E s₂) E { s with heap := h, toks := tk })
    (done : ∀ j m, J j [] m → ∀ h tk, Fr h₀ env.locals h m → News h₀ env.locals h news → Q .next { s with heap := h, toks := tk }) :
    ∀ vs j m, J j vs m → ItemsRest prog w A E h₀ env target body Q s [(I + 1, "enumerate"), (I, ty)] [(l, lo)] (enumItems j vs) m news := by
  intro vs
  induction vs with
  | nil => intro j m hJ; exact ItemsRest.zero fun h tk F N => done j m hJ h tk F N
  | cons v r ih =>
    intro j m hJ
    refine ItemsRest.pair fun T t h tk hT F => ?_
    refine AllObj.cons fun o1 _ => AllObj.cons fun o2 _ => AllObj.nil fun N => ?_
    refine wpAny_mono (step j v r m hJ T t h tk o1 o2 hT F N) (fun _ s₂ h₂ => wpAny_mono h₂ (fun f s₃ h₃ => ?_) fun _ _ e => e) fun _ _ e => e
    have off : ∀ p ∈ news, ∀ q ∈ [(I + 1, o1), (I, o2)], p.1 ≠ q.1 := fun p hp q hq => by
      have := hI p hp
      rcases List.mem_cons.mp hq with rfl | hq
      · exact Nat.ne_of_lt (Nat.lt_succ_of_lt this)
      · rw [List.mem_singleton.mp hq]; exact Nat.ne_of_lt this
    cases f with
    | ret v => exact h₃
    | brk => exact h₃
    | next =>
      obtain ⟨h', tk', m', rfl, F', N', hJ'⟩ := h₃
      exact ⟨h', tk', m', news, rfl, F', N', off, ⟨hm, trivial⟩, ih (j + 1) m' hJ'⟩
    | cont =>
      obtain ⟨h', tk', m', rfl, F', N', hJ'⟩ := h₃
      exact ⟨h', tk', m', news, rfl, F', N', off, ⟨hm, trivial⟩, ih (j + 1) m' hJ'⟩
def Pack (P : Prop) : Prop := P
/-- the places of the values that pass -/
def places (pz : Nat → Value → Bool) : Nat → List Value → List Nat
  | _, [] => []
  | i, v :: r => if pz i v then i :: places pz (i + 1) r else places pz (i + 1) r
def intsP (js : List Nat) : List PyData := js.map fun (j : Nat) => PyData.int (j : Int)
def Good (pz : Nat → Value → Bool) (vs : List Value) (i : Nat) (ys : List Value) : Prop :=
  ∀ zs, CarriedAll zs (intsP (places pz i (vs.drop i))) → CarriedAll (ys ++ zs) (intsP (places pz 0 vs))
theorem Good.go {pz : Nat → Value → Bool} {vs : List Value} {i : Nat} {ys : List Value} {v y : Value} (hv : vs[i]? = some v) (g : Good pz vs i ys) (hy : Carried y (.int (i : Nat))) (hp : pz i v = true) : Good pz vs (i + 1) (ys ++ [y]) := by
  intro zs hz
  have hlt : i < vs.length := (List.getElem?_eq_some_iff.mp hv).1
  have hd : vs.drop i = v :: vs.drop (i + 1) := by rw [List.drop_eq_getElem_cons hlt, (List.getElem?_eq_some_iff.mp hv).2]
  have := g (y :: zs) (by rw [hd]; simp only [places, hp, if_true]; exact .cons hy hz)
  rwa [List.append_assoc]
theorem Good.stay {pz : Nat → Value → Bool} {vs : List Value} {i : Nat} {ys : List Value} {v : Value} (hv : vs[i]? = some v) (g : Good pz vs i ys) (hp : pz i v = false) : Good pz vs (i + 1) ys := by
  intro zs hz
  have hlt : i < vs.length := (List.getElem?_eq_some_iff.mp hv).1
  have hd : vs.drop i = v :: vs.drop (i + 1) := by rw [List.drop_eq_getElem_cons hlt, (List.getElem?_eq_some_iff.mp hv).2]
  exact g zs (by rw [hd]; simp only [places, hp, if_false, Bool.false_eq_true]; exact hz)
/-- where the list that is gone through lies, and what else stands -/
structure EnumAt (h₀ : Heap) (L : Addr) (h : Heap) (m : Str → Option Value) (en it l : Addr) (vs : List Value) (news : List (Addr × Obj)) : Prop where
  enum : ∃ old, IsEnum h en it 0 old
  iter : h.IsListIter it l 0
  list : ∃ lo n, (l, lo) ∈ news ∧ lo.cls = .type "list" ∧ lo.data = .seq vs.toArray n
  ne : en ≠ it
  en0 : h₀.get? en = none
  it0 : h₀.get? it = none
  Le : L ≠ en
  Li : L ≠ it
  off : ∀ p ∈ news, p.1 ≠ en ∧ p.1 ≠ it
  frame : Fr h₀ L h m
  led : News h₀ L h news
set_option maxHeartbeats 4000000 in
theorem enum_comp {prog : Program} {w : World} {A : Around} {E : Value → Shared → Prop} {s : Shared} {env : Env} {h₀ : Heap} {L : Addr} {m : Str → Option Value} {elt iter c : Expr} {a b : Str} {pa pb tp : Pos} {kk : Nat} {scope : Scope} {cl : List (Str × Addr)} {pos : Pos} {Q : Value → Shared → Prop} (pz : Nat → Value → Bool)
    (_ : Fr h₀ L s.heap m) (hh : A.handled = none) (hclos : closureFor scope env = pure cl) (hcell : ∀ y ∈ scope.names, y.2 ≠ .cell) (hkind : scope.kind = .function)
    (hnames : ∀ y ∈ scope.names, y.2 = .local → scope.names.lookup y.1 = some .local) (hxa : scope.names.lookup a = some .local) (hxb : scope.names.lookup b = some .local) (hab : ¬ a = b)
    (h : wpAny (model prog w) A (eval iter env) (fun xv s₁ => Pack (∃ news : List (Addr × Obj), ∃ en it l vs, xv = .ref en ∧ EnumAt h₀ L s₁.heap m en it l vs news ∧ vs.length ≤ sizeLine ∧
      (∀ C i v t s₂ m₂ E', h₀.objs.size ≤ C → vs[i]? = some v → s₂.heap.Ns C m₂ → m₂ a = some (.int (i : Nat) t) → m₂ b = some v → (∀ b o, h₀.get? b = some o → s₂.heap.get? b = some o) →
        wpAny (model prog w) A (isTrue c (compEnvC scope cl C env) (eval c (compEnvC scope cl C env))) (fun ok s₃ => ok = pz i v ∧ Keeps s₂ s₃) E' s₂) ∧
      (∀ C i v t s₂ m₂ E', h₀.objs.size ≤ C → vs[i]? = some v → s₂.heap.Ns C m₂ → m₂ a = some (.int (i : Nat) t) → m₂ b = some v → (∀ b o, h₀.get? b = some o → s₂.heap.get? b = some o) →
        wpAny (model prog w) A (eval elt (compEnvC scope cl C env)) (fun y s₃ => Carried y (.int (i : Nat)) ∧ Keeps s₂ s₃) E' s₂) ∧
      (∀ D (zs : List Value) h' tk, Fr h₀ L h' m → News h₀ L h' ((D, lst zs) :: news) → h₀.get? D = none → (∀ p ∈ news, p.1 ≠ D) → CarriedAll zs (intsP (places pz 0 vs)) → Q (.ref D) { s₁ with heap := h', toks := tk }))) E s)
    (hs : ∀ x, foldedSetIterable iter env x = pure x) :
    wpAny (model prog w) A (eval (.ListComp elt [⟨.Tuple [.Name a pa, .Name b pb] kk tp, iter, [c], 0⟩] scope pos) env) Q E s := by
  rw [eval_ListComp]
  refine wpAny_comprehension_free (use := none) rfl hs hclos hkind hnames (wpAny_mono h (fun xv s₁ h₁ => ?_) fun _ _ e => e)
  obtain ⟨news, en, it, l, vs, rfl, X, hsz, htest, helt, hQ⟩ := h₁
  obtain ⟨lo, n, hm, hc, hd⟩ := X.list
  have hax := X.led _ hm
  have hl : s₁.heap.IsList l vs.toArray := ⟨lo, hax.1, hc, n, hd⟩
  obtain ⟨old, hE⟩ := X.enum
  refine wpAny_pyIter_enum hE ?_
  have W := KTurns.ofWalksU (elts := [.Name a pa, .Name b pb]) (k := kk) (pos := tp) (WalksT.enumerate (prog := prog) (w := w) (A := A) hh en it l X.ne (X.off _ hm).1 (X.off _ hm).2 vs.toArray).toU
  have F := X.frame
  have N := X.led
  refine wpAny_newObj_type (wpAny_newFunctionEnv hcell (by intro y hy; simp at hy) (fun h₁ hns₁ hsb₁ => ?_) hkind)
  dsimp only at hns₁ hsb₁ ⊢
  generalize hH2 : s₁.heap.push { cls := .type "list", dict := none, data := .seq ([] : List Value).toArray } = H2 at hns₁ hsb₁ ⊢
  have hC : H2.objs.size = s₁.heap.objs.size + 1 := by rw [← hH2, Heap.size_push]
  have hDC : s₁.heap.objs.size ≠ H2.objs.size := by rw [hC]; exact Nat.ne_of_lt (Nat.lt_succ_self _)
  have below : ∀ b, b < s₁.heap.objs.size → b ≠ H2.objs.size ∧ b ≠ s₁.heap.objs.size := fun b hb => ⟨by rw [hC]; exact Nat.ne_of_lt (Nat.lt_succ_of_lt hb), Nat.ne_of_lt hb⟩
  have hen : en < s₁.heap.objs.size := Heap.lt_size hE
  have hit : it < s₁.heap.objs.size := by obtain ⟨o, e, _⟩ := X.iter; exact Heap.lt_size e
  have old₁ : ∀ b o, s₁.heap.get? b = some o → h₁.get? b = some o := fun b o e => hsb₁.extBut b o (below b (Heap.lt_size e)).1 (Heap.get?_push_of_some _ (hH2 ▸ Heap.get?_push_of_some _ e))
  have hacc : h₁.get? s₁.heap.objs.size = some (lst []) := hsb₁.extBut _ _ hDC (Heap.get?_push_of_some _ (hH2 ▸ Heap.get?_push_size _ rfl))
  have fresh₀ : ∀ a, s₁.heap.objs.size ≤ a → h₀.get? a = none := fun a ha => by
    cases e : h₀.get? a with
    | none => rfl
    | some o' => exact absurd (Heap.lt_size (F.keep a o' e)) (Nat.not_lt.mpr ha)
  have hD₀ : h₀.get? s₁.heap.objs.size = none := fresh₀ _ (Nat.le_refl _)
  have hC₀ : h₀.get? H2.objs.size = none := fresh₀ _ (by rw [hC]; exact Nat.le_succ _)
  have hLlt : L < s₁.heap.objs.size := F.ns.lt
  have hDL : s₁.heap.objs.size ≠ L := Ne.symm (below L hLlt).2
  have hCL : H2.objs.size ≠ L := Ne.symm (below L hLlt).1
  have hbC : h₀.objs.size ≤ H2.objs.size := by
    rw [hC]; exact Nat.le_succ_of_le (Nat.le_trans F.above (Nat.le_of_lt hLlt))
  have offD : ∀ p ∈ news, p.1 ≠ H2.objs.size ∧ p.1 ≠ s₁.heap.objs.size := fun p hp => below _ (Heap.lt_size (N p hp).1)
  have hwr : ∀ b, b ∉ [en, it] ↔ (b ≠ en ∧ b ≠ it) := fun b => by simp
  let St : Nat → Heap → Prop := fun i h => (∃ old, IsEnum h en it i old) ∧ h.IsListIter it l i ∧ h.IsList l vs.toArray
  have stEnum : ∀ i (h h' : Heap), St i h → (∀ b o, b ≠ H2.objs.size → b ≠ s₁.heap.objs.size → h.get? b = some o → h'.get? b = some o) → St i h' := fun i h h' st hk =>
    W.frame i h h' st fun b hb o e => by
      have hb' : b < s₁.heap.objs.size := by
        rcases List.mem_cons.mp hb with rfl | hb
        · exact hen
        · rcases List.mem_cons.mp hb with rfl | hb
          · exact hit
          · rw [List.mem_singleton.mp hb]; exact Heap.lt_size hax.1
      exact hk b o (below b hb').1 (below b hb').2 e
  have loop : ∀ s₃ : Shared, s₃ = { s₁ with heap := h₁, toks := s₁.toks + ([] : List (Str × Value)).length } →
      codeAny (model prog w) A (.compLoop (.ListComp elt [⟨.Tuple [.Name a pa, .Name b pb] kk tp, iter, [c], 0⟩] scope pos) 0 (.ref en) (.ref s₁.heap.objs.size) (compEnvC scope cl H2.objs.size env))
        (compPost (model prog w) A E none Q (.ref s₁.heap.objs.size) H2.objs.size) s₃ := by
    rintro s₃ rfl
    refine kct_loop
      (fun k s' => ∃ h' tk i ys m', s' = { s₁ with heap := h', toks := tk } ∧ i ≤ vs.length ∧ k = vs.length + 1 - i ∧ ys.length ≤ i ∧ St i h' ∧ Fr h₀ L h' m ∧ h'.Ns H2.objs.size m' ∧
        News h₀ L h' ((s₁.heap.objs.size, lst ys) :: news) ∧ Good pz vs i ys) ?_ (vs.length + 1)
      ⟨h₁, _, 0, [], _, rfl, Nat.zero_le _, rfl, Nat.le_refl _, stEnum 0 _ _ ⟨⟨old, hE⟩, X.iter, hl⟩ fun b o _ _ e => old₁ b o e, F.keeps old₁, hns₁, fun p hp => ?_, fun zs hz => hz⟩
    · rintro k s' ⟨h', tk, i, ys, m', rfl, hi, rfl, hyl, hst, F', hn', N', hG⟩
      by_cases hlt : i < vs.length
      · refine W.item i _ _ _ (by simpa using hlt) hst fun v h₂ tk₂ hMd hk₂ => ?_
        refine W.go i v _ _ _ hMd fun h₃ hP hst₃ hk₃ => ?_
        obtain ⟨T, vals, rfl, ⟨t, x, hx, rfl⟩, hT⟩ := hP
        have hx' : vs[i]? = some x := by simpa using hx
        have up₃ : ∀ c o, c ≠ en → c ≠ it → h'.get? c = some o → h₃.get? c = some o := fun c o h1 h2 e => hk₃ c o ((hwr c).mpr ⟨h1, h2⟩) (hk₂ c o ((hwr c).mpr ⟨h1, h2⟩) e)
        refine kcp_assign (env := compEnvC scope cl H2.objs.size env) hh hT (lookup_relabel_local hxa) (lookup_relabel_local hxb) (by simp [compEnvC, relabel, hkind]) (hn'.at' fun o e => up₃ _ o (Ne.symm (below en hen).1) (Ne.symm (below it hit).1) e) fun h₄ tk₄ hn₄ hs₄ => ?_
        have hst₄ : St (i + 1) h₄ := stEnum _ _ _ hst₃ fun b o h1 _ e => hs₄ b o h1 e
        have up : ∀ c o, c ≠ en → c ≠ it → c ≠ H2.objs.size → h'.get? c = some o → h₄.get? c = some o := fun c o h1 h2 h3 e => hs₄ c o h3 (up₃ c o h1 h2 e)
        have not₀ : ∀ c o, h₀.get? c = some o → c ≠ en ∧ c ≠ it ∧ c ≠ H2.objs.size := fun c o e =>
          ⟨fun q => (by rw [q, X.en0] at e; cases e), fun q => (by rw [q, X.it0] at e; cases e), fun q => (by rw [q, hC₀] at e; cases e)⟩
        have F₄ : Fr h₀ L h₄ m := ⟨F'.ns.at' fun o e => up _ o X.Le X.Li (Ne.symm hCL) e, fun c o e => up c o (not₀ c o e).1 (not₀ c o e).2.1 (not₀ c o e).2.2 (F'.keep c o e), F'.above⟩
        have N₄ : News h₀ L h₄ ((s₁.heap.objs.size, lst ys) :: news) := fun q hq => by
          have z := N' q hq
          refine ⟨up _ _ ?_ ?_ ?_ z.1, z.2⟩
          · rcases List.mem_cons.mp hq with rfl | hq
            · exact Ne.symm (below en hen).2
            · exact (X.off q hq).1
          · rcases List.mem_cons.mp hq with rfl | hq
            · exact Ne.symm (below it hit).2
            · exact (X.off q hq).2
          · rcases List.mem_cons.mp hq with rfl | hq
            · exact hDC
            · exact (offD q hq).1
        refine wpAny_mono (htest H2.objs.size i x t _ _ _ hbC hx' hn₄ (by simp [hab]) (by simp) F₄.keep) (fun okb s₅ h₅ => ?_) fun _ _ e => e
        obtain ⟨rfl, h₅, tk₅, rfl, hk₅⟩ := h₅
        cases hpz : pz i x with
        | false =>
          simp only [Bool.false_eq_true, if_false]
          exact ⟨vs.length + 1 - (i + 1), by omega, h₅, tk₅, i + 1, ys, _, rfl, hlt, rfl, Nat.le_succ_of_le hyl, stEnum _ _ _ hst₄ fun b o _ _ e => hk₅ b o e, F₄.keeps hk₅, hn₄.at' fun o e => hk₅ _ o e, N₄.grown hk₅, hG.stay hx' hpz⟩
        | true =>
          simp only [if_true]
          refine wpAny_mono (helt H2.objs.size i x t _ _ _ hbC hx' (hn₄.at' fun o e => hk₅ _ o e) (by simp [hab]) (by simp) (F₄.keeps hk₅).keep) (fun y s₆ h₆ => ?_) fun _ _ e => e
          obtain ⟨hy, h₆, tk₆, rfl, hk₆⟩ := h₆
          have N₆ := (N₄.grown hk₅).grown hk₆
          have zD := (N₆ (s₁.heap.objs.size, lst ys) List.mem_cons_self).1
          refine append_at (hsz := by show ys.toArray.size ≤ sizeLine; rw [List.size_toArray]; exact Nat.le_trans hyl (Nat.le_trans hi hsz)) zD fun h₇ hs₇ hD₇ => ?_
          refine ⟨vs.length + 1 - (i + 1), by omega, h₇, _, i + 1, ys ++ [y], _, rfl, hlt, rfl, by rw [List.length_append, List.length_singleton]; exact Nat.succ_le_succ hyl, stEnum _ _ _ hst₄ fun b o _ h2 e => hs₇.extBut b o h2 (hk₆ b o (hk₅ b o e)),
            ((F₄.keeps hk₅).keeps hk₆).change hs₇ hDL hD₀, ((hn₄.at' fun o e => hk₅ _ o e).at' fun o e => hk₆ _ o e).sameBut hs₇ (Ne.symm hDC), fun q hq => ?_, hG.go hx' hy hpz⟩
          rcases List.mem_cons.mp hq with rfl | hq
          · exact ⟨hD₇.trans (congrArg some (lst_snoc ys y)), hDL, hD₀⟩
          · exact ⟨hs₇.extBut _ _ (offD q hq).2 (N₆ q (List.mem_cons_of_mem _ hq)).1, (N₆ q (List.mem_cons_of_mem _ hq)).2⟩
      · have hin : i = vs.length := Nat.le_antisymm hi (Nat.not_lt.mp hlt)
        subst hin
        refine W.done _ _ _ (by simpa using hst) fun h₂ tk₂ hk₂ => ?_
        have hk : ∀ c o, c ≠ en → c ≠ it → h'.get? c = some o → h₂.get? c = some o := fun c o h1 h2 e => hk₂ c o ((hwr c).mpr ⟨h1, h2⟩) e
        refine ⟨_, hn'.at' fun o e => hk _ o (Ne.symm (below en hen).1) (Ne.symm (below it hit).1) e, fun h'' hs'' => ?_⟩
        have F₂ : Fr h₀ L h₂ m := ⟨F'.ns.at' fun o e => hk _ o X.Le X.Li e, fun c o e => hk c o (fun q => (by rw [q, X.en0] at e; cases e)) (fun q => (by rw [q, X.it0] at e; cases e)) (F'.keep c o e), F'.above⟩
        refine hQ _ ys h'' tk₂ (F₂.change hs'' hCL hC₀) (fun p hp => ?_) hD₀ (fun p hp => (offD p hp).2) (by simpa using hG [] (by rw [List.drop_length]; exact .nil))
        have z := N' p hp
        refine ⟨hs''.extBut _ _ ?_ (hk _ _ ?_ ?_ z.1), z.2⟩
        · rcases List.mem_cons.mp hp with rfl | hp
          · exact hDC
          · exact (offD p hp).1
        · rcases List.mem_cons.mp hp with rfl | hp
          · exact Ne.symm (below en hen).2
          · exact (X.off p hp).1
        · rcases List.mem_cons.mp hp with rfl | hp
          · exact Ne.symm (below it hit).2
          · exact (X.off p hp).2
    · rcases List.mem_cons.mp hp with rfl | hp
      · exact ⟨hacc, hDL, hD₀⟩
      · exact ⟨old₁ _ _ (N p hp).1, (N p hp).2⟩
  obtain ⟨old', hE'⟩ := (stEnum 0 _ h₁ ⟨⟨old, hE⟩, X.iter, hl⟩ fun b o _ _ e => old₁ b o e).1
  exact codeAny_compStart_list (loop _ rfl) (wpAny_pyIter_enum hE' (loop _ rfl))
end Mine
end
section
open PySem PySem.W PySem.Calls PyProof.Rows
namespace Mine
abbrev listO (ys : List Value) (n : Nat) : Obj := { cls := .type "list", data := .seq ys.toArray n }
theorem wpAny_pack {α : Type} {M : Model} {A : Around} {E : Value → Shared → Prop} {s : Shared} {t : Sem α} {Q : α → Shared → Prop} (h : wpAny M A t (fun a s' => Pack (Q a s')) E s) : wpAny M A t Q E s := h
def WAYS10 : List String := ["L", "R", "AL", "AN", "EN", "ES", "CS", "ON", "BN", "NSM"]
def rtlS (x : Str) : Bool := [Str.ofString "R", Str.ofString "AL", Str.ofString "AN"].any (· == x)
abbrev WK : ItemKind Str := ItemKind.str.within (fun a => a ∈ WAYS10.map Str.ofString)
theorem ways_comp {prog : Program} {w : World} {A : Around} {E : Value → Shared → Prop} {s : Shared} {env : Env} {h₀ : Heap} {L : Addr} {m : Str → Option Value} {elt iter : Expr} {x : Str} {px : Pos} {ifs : List Expr} {scope : Scope} {cl : List (Str × Addr)} {pos : Pos} {Q : Value → Shared → Prop} (pz : Str → Bool) (d : Str → PyData)
    (_ : Fr h₀ L s.heap m) (hh : A.handled = none) (hclos : closureFor scope env = pure cl) (hcell : ∀ y ∈ scope.names, y.2 ≠ .cell) (hkind : scope.kind = .function)
    (hnames : ∀ y ∈ scope.names, y.2 = .local → scope.names.lookup y.1 = some .local) (hx : scope.names.lookup x = some .local)
    (h : wpAny (model prog w) A (eval iter env) (fun xv s₁ => Pack (∃ news : List (Addr × Obj), ∃ ax vs as, xv = .ref ax ∧ s₁.heap.IsList ax vs.toArray ∧ AreOf WK vs as ∧ as.length ≤ sizeLine ∧ Fr h₀ L s₁.heap m ∧ News h₀ L s₁.heap news ∧
      (∀ C a v s₂ m₂ E', s₁.heap.objs.size ≤ C → a ∈ as → WK.is a v → s₂.heap.Ns (compEnvC scope cl C env).locals m₂ → m₂ x = some v → (∀ b o, s₁.heap.get? b = some o → s₂.heap.get? b = some o) →
        wpAny (model prog w) A (forIn ifs true fun c r => if r = true then do let ok ← isTrue c (compEnvC scope cl C env) (eval c (compEnvC scope cl C env)); pure (ForInStep.yield ok) else pure (ForInStep.yield r))
          (fun ok s₃ => ok = pz a ∧ Keeps s₂ s₃) E' s₂) ∧
      (∀ C a v s₂ m₂ E', s₁.heap.objs.size ≤ C → a ∈ as → WK.is a v → pz a = true → s₂.heap.Ns (compEnvC scope cl C env).locals m₂ → m₂ x = some v → (∀ b o, s₁.heap.get? b = some o → s₂.heap.get? b = some o) →
        wpAny (model prog w) A (eval elt (compEnvC scope cl C env)) (fun y s₃ => Carried y (d a) ∧ Keeps s₂ s₃) E' s₂) ∧
      (∀ D (ys : List Value) h' tk, Fr h₀ L h' m → News h₀ L h' news → h₀.get? D = none → h'.IsList D ys.toArray → NewPlain h' news D ys.toArray → CarriedAll ys ((as.filter pz).map d) → Q (.ref D) { s₁ with heap := h', toks := tk }))) E s)
    (hs : ∀ x, foldedSetIterable iter env x = pure x) :
    wpAny (model prog w) A (eval (.ListComp elt [⟨.Name x px, iter, ifs, 0⟩] scope pos) env) Q E s :=
  ListComp_DCn hh hclos hcell hkind hnames hx h hs
theorem NewPlain.ledger {h₀ h : Heap} {L D : Addr} {m : Str → Option Value} {news : List (Addr × Obj)} {zs : List Value} (x : NewPlain h news D zs.toArray) (F : Fr h₀ L h m) (N : News h₀ L h news) (hD : h₀.get? D = none) : ∃ n, News h₀ L h ((D, listO zs n) :: news) := by
  have hL := PyProof.Rows.NewPlain.ne_locals x F
  obtain ⟨⟨n, e⟩, _⟩ := x
  refine ⟨n, fun p hp => ?_⟩
  rcases List.mem_cons.mp hp with rfl | hp
  · exact ⟨e, hL, hD⟩
  · exact N p hp
theorem eq_nilL {prog : Program} {w : World} {A : Around} {E : Value → Shared → Prop} {s : Shared} {l b : Addr} {zs : List Value} {Q : Value → Shared → Prop} (hl : s.heap.IsList l zs.toArray) (hb : s.heap.IsList b #[]) (hu : A.units < cLine) {bz : Bool} (hz : zs.isEmpty = bz)
    (h : Q (.bool bz) s) : wpAny (model prog w) A (compareOp .Eq (.ref l) (.ref b)) Q E s := by
  subst hz
  cases zs with
  | nil => exact SeqAt.eq_listAt (e := fun _ => true) hl hb rfl hu (fun j h1 => absurd h1 (Nat.not_lt_zero _)) h
  | cons z r => exact SeqAt.eq_list_lengthsAt hl hb (by simp) hu h
local macro_rules | `(tactic| walk_at "compareOp Eq ref ref") => `(tactic| (k_here; (with_reducible show wpAny _ _ (compareOp CmpOp.Eq (Value.ref _) (Value.ref _)) _ _ _); (with_unfolding_all refine' eq_nilL ?k1 ?k2 ?k3 ?k4 ?_; (case k4 => assumption); (case k1 => exact News.isList (by k_asm) (by k_mem)); (case k2 => exact News.isList (by k_asm) (by k_mem)); (case k3 => ktr_units); k_whole)))
/-- the list's sign at i -/
def WayIs (ys : List Value) (i : Int) (c : String) : Prop := ∃ n ws, ys.length = n ∧ StrsAre ys ws ∧ 0 ≤ i ∧ i < ws.length ∧ ws.length ≤ 100 ∧ ws.getD i.toNat Str.empty = Str.ofString c
theorem item_way {prog : Program} {w : World} {A : Around} {E : Value → Shared → Prop} {s : Shared} {value slice : Expr} {a : Addr} {ys : List Value} {k : Int} {u : Tok} {c : String} {Q : Value → Shared → Prop} (hW : WayIs ys k c) (hl : s.heap.IsList a ys.toArray)
    (h : ∀ t, Q (.str (Str.ofString c) t) s)
    (hs : subscripted slice false (.ref a) (.int k u) = operate [.ref a, .int k u] (getItem (.ref a) (.int k u)) := by with_unfolding_all rfl) (hg : ∀ r, letTemporaryGo value (.ref a) r = pure () := by intro _; with_unfolding_all rfl) :
    wpAny (model prog w) A (subscriptTail value slice (.ref a) (.int k u)) Q E s := by
  obtain ⟨n, ws, -, hi, h0, h1, h2, h3⟩ := hW
  exact item_strsA hl hi h0 h1 (by omega) (fun t => by rw [h3]; exact h t) hs hg
theorem rtl_empty : ∀ {ws : List String} {zs : List Value}, (∀ w ∈ ws, w ∈ WAYS10) → CarriedAll zs (((ws.map Str.ofString).filter rtlS).map PyData.str) → zs.isEmpty = !(ws.any isRtl) := by
  intro ws zs hws hc
  have h0 : ∀ w ∈ WAYS10, rtlS (Str.ofString w) = isRtl w := by decide +kernel
  have h1 : (((ws.map Str.ofString).filter rtlS).map PyData.str).isEmpty = !(ws.any isRtl) := by
    clear hc
    induction ws with
    | nil => rfl
    | cons w r ih =>
      have e := h0 w (hws w (by simp))
      cases hq : isRtl w
      · simp [List.filter_cons, e, hq]
        simpa using ih fun v hv => hws v (by simp [hv])
      · simp [List.filter_cons, e, hq]
  rw [← h1]
  generalize ((ws.map Str.ofString).filter rtlS).map PyData.str = l at hc
  cases hc <;> rfl
def scanW (right : Bool) : List String → Nat → String → Option (String × Nat)
  | [], _, _ => none
  | w :: r, j, fig =>
    if right && w == "L" then some ("bidi_rule_2", j) else
    if !right && isRtl w then some ("bidi_rule_5", j) else
    if right && (w == "AN" || w == "EN") then (if fig == "" || fig == w then scanW right r (j + 1) w else some ("bidi_rule_4", j))
    else scanW right r (j + 1) fig
/-- the place (from 1 on) of the last way that is no mark -/
def lastW : List String → Nat → Nat → Nat
  | [], _, l => l
  | w :: r, j, l => lastW r (j + 1) (if w == "NSM" then l else j)
def ruleS (ws : List String) (asked : Bool) : Option (String × Nat) :=
  if !(ws.any isRtl) && !asked then none else
  match ws with
  | [] => none
  | w0 :: _ =>
    if !(w0 == "L" || w0 == "R" || w0 == "AL") then some ("bidi_rule_1", 1) else
    match scanW (w0 != "L") ws 1 "" with
    | some x => some x
    | none =>
      let l := lastW ws 1 0
      let wl := ws.getD (l - 1) ""
      if (if w0 != "L" then wl == "R" || wl == "AL" || wl == "EN" || wl == "AN" else wl == "L" || wl == "EN") then none
      else some (if w0 != "L" then "bidi_rule_3" else "bidi_rule_6", l)
local macro_rules | `(tactic| walk_at "subscriptTail Name Constant ref int") => `(tactic| (k_here; (with_reducible rename WayIs _ _ _ => hW9); (with_unfolding_all refine' item_way hW9 ?k1 ?_ ?ks ?kt; (case k1 => exact News.isList (by k_asm) (by k_mem)); (case ks => with_unfolding_all rfl); (case kt => (intro _; with_unfolding_all rfl)); k_whole); intro t9))
theorem newTup_elt {M : Model} {A : Around} {E : Value → Shared → Prop} {s : Shared} {vs : List Value} {Q : Value → Shared → Prop} {s₂ : Heap} (I : InElt s₂ s.heap)
    (h : ∀ D h', InElt s₂ h' → IsTup h' D vs.toArray → Q (.ref D) { s with heap := h' }) (hz : vs.length ≤ sizeLine) : wpAny M A (newTuple vs) Q E s :=
  wpAny_newTuple (h _ _ (fun b o e => Heap.get?_push_of_some _ (I b o e)) ⟨_, Heap.get?_push_size _ rfl, rfl, _, rfl⟩) hz
local macro_rules | `(tactic| walk_at "newTuple") => `(tactic| (k_here; (rename InElt _ _ => kE9); (with_unfolding_all refine' newTup_elt kE9 ?_ ?hz); (case hz => exact Nat.le_of_ble_eq_true rfl); clear kE9; intro D9 h9 kE8 hT9; dsimp only))
local macro_rules | `(tactic| walk_at "compareOp In str ref") => `(tactic| (k_here; (with_reducible show wpAny _ _ (compareOp CmpOp.In (Value.str _ _) (Value.ref _)) _ _ _); (rename InElt _ _ => kE9); (with_unfolding_all refine' in_tuple_strs ?k1 ?k2 ?_; (case k1 => assumption); (case k2 => kde_strs); k_whole)))
local macro_rules | `(tactic| walk_at "eval ListComp") => `(tactic| (k_here; (rename Fr _ _ _ _ => lF'); (refine' ways_comp rtlS PyData.str lF' ?hh ?hclos ?hcell ?hkind ?hnames ?hx ?_ ?hs); (case hh => with_unfolding_all rfl); (case hclos => with_unfolding_all rfl); (case hcell => decide); (case hkind => with_unfolding_all rfl); (case hnames => decide); (case hx => with_unfolding_all rfl); (case hs => intro _; with_unfolding_all rfl)))
theorem allLt_mem {d : Nat} : ∀ {l : List (Addr × Obj)}, AllLt d l → ∀ p ∈ l, p.1 < d
  | [], _, _, h => nomatch h
  | _ :: _, x, p, h => by
    rcases List.mem_cons.mp h with rfl | h
    · exact x.1
    · exact allLt_mem x.2 p h
theorem allLt_tail2 {d : Nat} {l l' : List (Addr × Obj)} (x : AllLt d (l' ++ l)) : ∀ p ∈ l, p.1 < d := fun p hp => allLt_mem x p (List.mem_append_right _ hp)
/-- the rule when the label runs one way, and its last part -/
def lastT (right : Bool) (ws : List String) : Option (String × Nat) :=
  if (if right then ws.getD (lastW ws 1 0 - 1) "" == "R" || ws.getD (lastW ws 1 0 - 1) "" == "AL" || ws.getD (lastW ws 1 0 - 1) "" == "EN" || ws.getD (lastW ws 1 0 - 1) "" == "AN" else ws.getD (lastW ws 1 0 - 1) "" == "L" || ws.getD (lastW ws 1 0 - 1) "" == "EN") then none
  else some (if right then "bidi_rule_3" else "bidi_rule_6", lastW ws 1 0)
def ruleT (right : Bool) (ws : List String) : Option (String × Nat) :=
  match scanW right ws 1 "" with
  | some x => some x
  | none => lastT right ws
theorem ruleS_T {w0 : String} {wr : List String} {asked : Bool} (hgo : (((w0 :: wr).any isRtl) || asked) = true) (hlr : (w0 == "L" || w0 == "R" || w0 == "AL") = true) : ruleS (w0 :: wr) asked = ruleT (w0 != "L") (w0 :: wr) := by
  unfold ruleS
  rw [show (!((w0 :: wr).any isRtl) && !asked) = false from by rw [← Bool.not_or, hgo]; rfl]
  simp only [hlr, Bool.not_true, Bool.false_eq_true, if_false]
  rfl
theorem ruleT_some {right : Bool} {ws : List String} {x : String × Nat} (h : scanW right ws 1 "" = some x) : ruleT right ws = some x := by unfold ruleT; rw [h]
theorem ruleT_none {right : Bool} {ws : List String} (h : scanW right ws 1 "" = none) : ruleT right ws = lastT right ws := by unfold ruleT; rw [h]
theorem lastW_ge : ∀ (ws : List String) (i l : Nat), (∀ w ∈ ws, w = "NSM") ∧ lastW ws i l = l ∨ (∃ w ∈ ws, w ≠ "NSM") ∧ i ≤ lastW ws i l ∧ lastW ws i l < i + ws.length
  | [], i, l => .inl ⟨by simp, rfl⟩
  | w :: r, i, l => by
    rcases lastW_ge r (i + 1) (if w == "NSM" then l else i) with ⟨h1, h2⟩ | ⟨⟨v, h0, h1⟩, h2, h3⟩
    · by_cases hw : w = "NSM"
      · refine .inl ⟨by simpa [hw] using h1, ?_⟩
        have e : (w == "NSM") = true := by simpa using hw
        rw [e] at h2
        simp only [lastW, e]; exact h2
      · refine .inr ⟨⟨w, by simp, hw⟩, ?_⟩
        have e : (w == "NSM") = false := by simpa using hw
        rw [e] at h2
        have h2' : lastW (w :: r) i l = i := by simp only [lastW, e]; exact h2
        rw [h2', List.length_cons]; omega
    · refine .inr ⟨⟨v, by simp [h0], h1⟩, ?_⟩
      simp only [lastW, List.length_cons]; omega
theorem lastW_pos {ws : List String} (h : ∃ w ∈ ws, w ≠ "NSM") : 1 ≤ lastW ws 1 0 ∧ lastW ws 1 0 ≤ ws.length := by
  rcases lastW_ge ws 1 0 with ⟨h1, _⟩ | ⟨_, h2, h3⟩
  · obtain ⟨w, hw, hn⟩ := h; exact absurd (h1 w hw) hn
  · omega
theorem strs_cons {v : Value} {vs : List Value} {w : String} {ws : List String} (h : StrsAre (v :: vs) ((w :: ws).map Str.ofString)) : ∃ t, v = .str (Str.ofString w) t ∧ StrsAre vs (ws.map Str.ofString) := by
  cases h with | cons _ t h => exact ⟨t, rfl, h⟩
theorem strs_at : ∀ {vs : List Value} {ws : List String} {i : Nat} {v : Value}, StrsAre vs (ws.map Str.ofString) → vs[i]? = some v → ∃ w t, w ∈ ws ∧ v = .str (Str.ofString w) t
  | [], _, _, _, _, h => by simp at h
  | _ :: _, [], _, _, hs, _ => by cases hs
  | u :: vs, w :: ws, 0, v, hs, h => by
    obtain ⟨t, e, _⟩ := strs_cons hs
    exact ⟨w, t, by simp, by rw [← e]; simpa using h.symm⟩
  | u :: vs, w :: ws, i + 1, v, hs, h => by
    obtain ⟨t, _, hs⟩ := strs_cons hs
    obtain ⟨w', t', h1, h2⟩ := strs_at hs (by simpa using h)
    exact ⟨w', t', by simp [h1], h2⟩
theorem getD_map : ∀ (ws : List String) (i : Nat), i < ws.length → (ws.map Str.ofString).getD i Str.empty = Str.ofString (ws.getD i "")
  | [], _, h => by simp at h
  | _ :: _, 0, _ => rfl
  | _ :: ws, i + 1, h => getD_map ws i (by simpa using h)
def pzN (_ : Nat) (v : Value) : Bool := match v with
  | .str x _ => x != Str.ofString "NSM"
  | _ => false
/-- the greatest of the ints -/
def MaxIs (zs : List Value) (K : Int) : Prop := ∃ ns, IntsAre zs ns ∧ 0 < ns.length ∧ ∀ M ∈ ns, (∀ a ∈ ns, a ≤ M) → M = K
theorem carried_ints : ∀ {zs : List Value} {js : List Nat}, CarriedAll zs (intsP js) → IntsAre zs (js.map fun (j : Nat) => (j : Int))
  | _, [], h => by cases h; exact .nil
  | _, j :: js, h => by
    cases h with
    | cons h1 h2 => cases h1; exact .cons _ _ (carried_ints h2)
theorem nsm_ne : ∀ w ∈ WAYS10, (Str.ofString w != Str.ofString "NSM") = (w != "NSM") := by decide +kernel
theorem places_last : ∀ {vs : List Value} {ws : List String} (i l : Nat), StrsAre vs (ws.map Str.ofString) → (∀ w ∈ ws, w ∈ WAYS10) →
    (places pzN i vs = [] ∧ lastW ws (i + 1) l = l) ∨ (1 ≤ lastW ws (i + 1) l ∧ lastW ws (i + 1) l - 1 ∈ places pzN i vs ∧ i ≤ lastW ws (i + 1) l - 1 ∧ ∀ a ∈ places pzN i vs, a ≤ lastW ws (i + 1) l - 1)
  | [], [], _, _, _, _ => .inl ⟨rfl, rfl⟩
  | [], _ :: _, _, _, h, _ => by cases h
  | _ :: _, [], _, _, h, _ => by cases h
  | v :: vs, w :: ws, i, l, h, hw => by
    obtain ⟨t, e, h'⟩ := strs_cons h
    subst e
    have hne : pzN i (.str (Str.ofString w) t) = (w != "NSM") := nsm_ne w (hw w (by simp))
    have ih := places_last (i + 1) (if w == "NSM" then l else i + 1) h' fun v hv => hw v (by simp [hv])
    simp only [places, lastW, hne]
    by_cases hN : w = "NSM"
    · subst hN
      simp only [bne_self_eq_false, Bool.false_eq_true, if_false, beq_self_eq_true, if_true] at ih ⊢
      rcases ih with ih | ⟨h1, h2, h3, h4⟩
      · exact .inl ih
      · exact .inr ⟨h1, h2, by omega, h4⟩
    · have e1 : (w == "NSM") = false := by simpa using hN
      have e2 : (w != "NSM") = true := by simp [bne, e1]
      simp only [e1, e2, Bool.false_eq_true, if_false, if_true] at ih ⊢
      refine .inr ?_
      rcases ih with ⟨h1, h2⟩ | ⟨h1, h2, h3, h4⟩
      · rw [h1, h2]
        refine ⟨by omega, by simp, by omega, fun a ha => ?_⟩
        have : a = i := by simpa using ha
        omega
      · refine ⟨h1, List.mem_cons_of_mem _ h2, by omega, fun a ha => ?_⟩
        rcases List.mem_cons.mp ha with rfl | ha
        · omega
        · exact h4 a ha
theorem maxIs_of {ys zs : List Value} {ws : List String} (hys : StrsAre ys (ws.map Str.ofString)) (hws : ∀ w ∈ ws, w ∈ WAYS10) (hl : ∃ w ∈ ws, w ≠ "NSM") (hc : CarriedAll zs (intsP (places pzN 0 ys))) : MaxIs zs ((lastW ws 1 0 : Nat) - 1) := by
  obtain ⟨p1, p2⟩ := lastW_pos hl
  rcases places_last 0 0 hys hws with ⟨_, h2⟩ | ⟨h1, h2, h3, h4⟩
  · rw [Nat.zero_add] at h2; omega
  · rw [Nat.zero_add] at h1 h2 h3 h4
    refine ⟨_, carried_ints hc, by rw [List.length_map]; exact List.length_pos_of_mem h2, fun M hM hle => ?_⟩
    obtain ⟨a, ha, rfl⟩ := List.mem_map.mp hM
    have q1 := h4 a ha
    have q2 := hle _ (List.mem_map.mpr ⟨_, h2, rfl⟩)
    omega
theorem max_last {prog : Program} {w : World} {A : Around} {E : Value → Shared → Prop} {s : Shared} {h₀ : Heap} {L l : Addr} {m : Str → Option Value} {news : List (Addr × Obj)} {zs : List Value} {K : Int} {Q : Value → Shared → Prop} (hM : MaxIs zs K) (hh : A.handled = none) (F : Fr h₀ L s.heap m) (N : News h₀ L s.heap news) (hl : s.heap.IsList l zs.toArray)
    (h : ∀ (t : Tok) h' tk, Fr h₀ L h' m → News h₀ L h' news → Q (.int K t) { s with heap := h', toks := tk }) : wpAny (model prog w) A (call (.builtin "max") [.ref l]) Q E s := by
  obtain ⟨ns, hi, hne, hK⟩ := hM
  refine max_list_N hh F N hl hi hne fun h' M t tk F' N' h1 h2 => ?_
  obtain rfl := hK M h1 h2
  exact h t h' tk F' N'
theorem call_enumE {prog : Program} {w : World} {A : Around} {E : Value → Shared → Prop} {s : Shared} {h₀ : Heap} {L l : Addr} {lo : Obj} {m : Str → Option Value} {news : List (Addr × Obj)} {vs : List Value} {n : Nat} {Q : Value → Shared → Prop} (F : Fr h₀ L s.heap m) (N : News h₀ L s.heap news) (hm : (l, lo) ∈ news) (hc : lo.cls = .type "list") (hd : lo.data = .seq vs.toArray n)
    (h : ∀ h' en it, EnumAt h₀ L h' m en it l vs news → Q (.ref en) { s with heap := h' }) : wpAny (model prog w) A (call (.type "enumerate") [.ref l]) Q E s := by
  have hax := N _ hm
  refine call_enumerate_list ⟨lo, hax.1, hc, n, hd⟩ fun h' hE hI hsz hk => ?_
  have hlt : ∀ p ∈ news, p.1 < s.heap.objs.size := fun p hp => Heap.lt_size (N p hp).1
  have hLs : L < s.heap.objs.size := F.ns.lt
  exact h _ _ _ ⟨⟨_, hE⟩, hI, ⟨lo, n, hm, hc, hd⟩, Nat.succ_ne_self _, ktu_new F (Nat.le_add_right _ _), ktu_new F (Nat.le_refl _), ktu_ne 1 hLs, Nat.ne_of_lt hLs,
    fun p hp => ⟨ktu_ne 1 (hlt p hp), Nat.ne_of_lt (hlt p hp)⟩, F.keeps hk, N.grown hk⟩
/-- how the loop over the ways stands -/
def JW (ys : List Value) (ws : List String) (D : Addr) (right : Bool) (v : Option (String × Nat)) (j : Nat) (vs : List Value) (m : Str → Option Value) : Prop :=
  ∃ d r fig tf, ws = d ++ r ∧ StrsAre vs (r.map Str.ofString) ∧ j = d.length ∧ m (Str.ofString "ways") = some (.ref D) ∧ m (Str.ofString "right") = some (.bool right) ∧ m (Str.ofString "figures") = some (.str (Str.ofString fig) tf) ∧
    (fig = "" ∨ fig = "AN" ∨ fig = "EN") ∧ v = scanW right r (j + 1) fig
local macro_rules | `(tactic| walk_at "call type:enumerate") => `(tactic| (k_here; (with_reducible show wpAny _ _ (call (Value.type _) [Value.ref _]) _ _ _); (rename Fr _ _ _ _ => lF'); (rename News _ _ _ _ => lN'); (with_unfolding_all refine' call_enumE lF' lN' ?k1 ?k2 ?k3 ?_; (case k1 => first | assumption | k_mem); (case k2 => exact rfl); (case k3 => exact rfl)); intro h9 en9 it9 hX9; (have F9 := hX9.frame); (have N9 := hX9.led)))
local macro_rules | `(tactic| walk_at "call type:enumerate") => `(tactic| (k_here; (with_reducible show wpAny _ _ (call (Value.type _) [Value.ref _]) (fun xv s₁ => wpAny _ _ (pyIter xv) (fun it s₂ => TurnsAt _ _ _ _ _ _ _ _ _ it s₂) _ s₁) _ _); (rename Fr _ _ _ _ => lF'); (rename News _ _ _ _ => lN'); (with_unfolding_all refine' ktu_enum ?k1 lF' lN' ?k2 ?k3 ?k4 ?k5 ?_; (case k1 => exact rfl); (case k2 => first | assumption | k_mem); (case k3 => exact rfl); (case k4 => exact rfl); (case k5 => exact rfl); k_whole); intro I9 hI9))
local macro_rules | `(tactic| walk_at "call builtin:max") => `(tactic| (k_here; (with_reducible show wpAny _ _ (call (Value.builtin _) [Value.ref _]) _ _ _); (with_reducible rename MaxIs _ _ => hM9); (rename Fr _ _ _ _ => lF'); (rename News _ _ _ _ => lN'); (with_unfolding_all refine' max_last hM9 ?k1 lF' lN' ?k2 ?_; (case k1 => exact rfl); (case k2 => exact News.isList lN' (by k_mem)); k_whole); intro t9 h9 tk9 F9 N9))
local macro_rules | `(tactic| walk_at "subscriptTail Name Name ref int") => `(tactic| (k_here; (with_reducible rename WayIs _ _ _ => hW9); (with_unfolding_all refine' item_way hW9 ?k1 ?_ ?ks ?kt; (case k1 => exact News.isList (by k_asm) (by first | assumption | exact List.Mem.tail _ (by assumption) | k_mem)); (case ks => with_unfolding_all rfl); (case kt => (intro _; with_unfolding_all rfl)); k_whole); intro t9))
local macro_rules | `(tactic| walk_at "exec For Tuple Call cons nil") => `(tactic| (k_here; (rename Fr _ _ _ _ => lF'); (with_unfolding_all refine' For_turns lF' ?_; k_whole)))
local macro_rules | `(tactic| walk_at "eval ListComp") => `(tactic| (k_here; (rename Fr _ _ _ _ => lF'); (refine' enum_comp pzN lF' ?hh ?hclos ?hcell ?hkind ?hnames ?hxa ?hxb ?hab ?_ ?hs); (case hh => with_unfolding_all rfl); (case hclos => with_unfolding_all rfl); (case hcell => decide); (case hkind => with_unfolding_all rfl); (case hnames => decide); (case hxa => with_unfolding_all rfl); (case hxb => with_unfolding_all rfl); (case hab => decide); (case hs => intro _; with_unfolding_all rfl)))
theorem way_facts : ∀ w ∈ WAYS10, (Str.ofString w == Str.ofString "L") = (w == "L") ∧ [Str.ofString "R", Str.ofString "AL", Str.ofString "AN"].any (· == Str.ofString w) = isRtl w ∧ [Str.ofString "AN", Str.ofString "EN"].any (· == Str.ofString w) = (w == "AN" || w == "EN") := by decide +kernel
local macro_rules | `(tactic| walk_at "compareOp Eq str str") => `(tactic| (k_here; (with_reducible show wpAny _ _ (compareOp CmpOp.Eq (Value.str _ _) (Value.str _ _)) _ _ _); (with_reducible refine' eq_strB ?k1 ?_; (case k1 => assumption); k_whole)))
local macro_rules | `(tactic| walk_at "compareOp In str ref") => `(tactic| (k_here; (with_reducible show wpAny _ _ (compareOp CmpOp.In (Value.str _ _) (Value.ref _)) _ _ _); (with_unfolding_all refine' in_tupS _ ?k1 ?k2 ?k3 ?_; (case k1 => exact News.isTup (by k_asm) (by news_mem)); (case k2 => kde_strs); (case k3 => assumption); k_whole)))
theorem end_facts : ∀ w ∈ WAYS10, (!([Str.ofString "R", Str.ofString "AL", Str.ofString "EN", Str.ofString "AN"].any (· == Str.ofString w))) = !(w == "R" || w == "AL" || w == "EN" || w == "AN") ∧ (!([Str.ofString "L", Str.ofString "EN"].any (· == Str.ofString w))) = !(w == "L" || w == "EN") := by decide +kernel
theorem strs_len : ∀ {vs : List Value} {ws : List String}, StrsAre vs (ws.map Str.ofString) → vs.length = ws.length
  | [], [], _ => rfl
  | [], _ :: _, h => by cases h
  | _ :: _, [], h => by cases h
  | _ :: vs, _ :: ws, h => by obtain ⟨_, _, h'⟩ := strs_cons h; simp [strs_len h']
local macro_rules | `(tactic| walk_at "compareOp NotIn str ref") => `(tactic| (k_here; (with_reducible show wpAny _ _ (compareOp CmpOp.NotIn (Value.str _ _) (Value.ref _)) _ _ _); (with_unfolding_all refine' notin_tupS _ ?k1 ?k2 ?k3 ?_; (case k1 => exact News.isTup (by k_asm) (by news_mem)); (case k2 => kde_strs); (case k3 => assumption); k_whole)))
set_option maxRecDepth 100000 in
set_option maxHeartbeats 80000000 in
theorem rule_tells {w : World} {mean : ExcName → Option Value} {mg mb : Str → Option Value}
  (dp un : Nat) (gd : Option (List Code)) (cn : Str) (cs : Scope) (a : Addr) (ccd : Value) (cl : List (Str × Addr)) (outer : List Env) (A₀ : Around) (base h₀ : Heap) (L : Addr) (m : Str → Option Value) (s : Shared) (Q E : Value → Shared → Prop)
  (news : List (Addr × Obj)) (D : Addr) (n : Nat) (ys : List Value) (asked : Bool) (ws : List String) (hys : StrsAre ys (ws.map Str.ofString)) (hws : ∀ w ∈ ws, w ∈ WAYS10) (hlen : ws.length ≤ 7) (hne : ws ≠ []) (hD : (D, listO ys n) ∈ news)
  (B : Below A₀ base outer h₀) (F : Fr h₀ L s.heap m) (X : (hd.heap_39 w.params).In h₀) (N : News h₀ L s.heap news) (T : Top VW LO mean mg mb h₀) (hk : cs.kind = .function)
  (hd1 : dp < 350) (hu : un < 3000)
  (retN : ruleS ws asked = none → ∀ (h' : Heap) (tk' : Nat), Fr h₀ L h' m → News h₀ L h' news → Q .none { s with heap := h', toks := tk' })
  (retS : ∀ code (k : Nat), ruleS ws asked = some (code, k) → ∀ (T : Addr) (h' : Heap) (tk' : Nat) (tc tn : Tok), Fr h₀ L h' m → News h₀ L h' ((T, ({ cls := .type "tuple", data := .seq [.str (Str.ofString code) tc, .int (k : Nat) tn].toArray } : Obj)) :: news) → (∀ p ∈ news, p.1 < T) → Q (.ref T) { s with heap := h', toks := tk' }) :
      wpAny (model PySem.Challenge.rw_fc0083_01.row.prog w) (ktrTop dp un gd cn cs L a ccd cl outer) (call (.ref 86) [.ref D, .bool asked]) Q E s := by
  have hd2 : dp + 1 < recursionLimit := by unfold recursionLimit; omega
  have hu2 : un + 8 < cLine := by unfold cLine; omega
  w_on
  revert X; k_fill; intro X
  refine wpAny_call ?_
  k_dflt (refine' code_def ?k1 ?k2 ?k3 ?k4 ?k5 ?kA ?kF ?kK ?k6 ?k7 ?k8 ?k9 ?kB ?_ ?c2 ?c3 ?c4 ?c5; (case kA => exact rfl); (case kF => exact rfl); (case kK => assumption); (case k1 => k_asm); (case k2 => k_asm); (case k3 => k_asm); (case k4 => k_asm); (case k5 => k_asm); (case k6 => k_is); (case k7 => k_is); (case k8 => ktr_room); (case k9 => exact BindsTo.of_eq rfl); (case c5 => decide); (case kB => exact locs rfl); (case c2 => exact rfl); (case c3 => exact rfl); (case c4 => exact rfl); k_whole; intro g' L' h' FG' F' N' B' X' T'; (try dsimp only); (try k_lift B'); (try k_fold))
  refine cut_stmt (fun s₁ => ((ws.any isRtl) || asked) = true ∧ ∃ h2 tk2 m2, s₁ = { s with heap := h2, toks := tk2 } ∧ Fr g' L' h2 m2 ∧ m2 (Str.ofString "ways") = some (.ref D) ∧ News g' L' h2 news) ?_ ?_
  · k_steps
    rename Fr _ _ _ _ => lF
    rename News _ _ _ _ => lN
    refine ⟨_, _, ys, ws.map Str.ofString, rfl, News.isList lN (by first | assumption | k_mem), ?_, ?_, lF, lN, ?_, ?_, ?_⟩
    · exact AreOf.withinP (StrsAre.areOf hys) fun a ha => by obtain ⟨w, hw, rfl⟩ := List.mem_map.mp ha; exact List.mem_map.mpr ⟨w, hws w hw, rfl⟩
    · rw [List.length_map, sizeLine_eq]; omega
    · intro C a v s₂ m₂ E' hC ha hav hNs hx hk
      obtain ⟨⟨t, rfl⟩, hin⟩ := hav
      have Fc := frInComp hNs hk hC
      (with_reducible refine wpAny_leafK ?_)
      k_steps
    · intro C a v s₂ m₂ E' hC ha hav hpz hNs hx hk
      obtain ⟨⟨t, rfl⟩, hin⟩ := hav
      have Fc := frInComp hNs hk hC
      (with_reducible refine wpAny_leafK ?_)
      k_steps
    · intro D2 zs h2 tk2 F2 N2' hD2 hl2 hp2 hc2
      obtain ⟨n2, N2⟩ := NewPlain.ledger hp2 F2 N2' hD2
      clear N2'
      have hz := rtl_empty hws hc2
      cases hany : ws.any isRtl <;> rw [hany] at hz <;> cases asked
      all_goals first | replace hz : zs.isEmpty = true := hz | replace hz : zs.isEmpty = false := hz
      all_goals k_steps
      · (try dsimp only [Cut])
        (try k_steps)
        refine' retN ?rc _ _ ?ra ?rb
        (case rc => simp only [ruleS, hany]; rfl)
        (case ra => k_asm)
        (case rb => first | k_asm | (refine' cb_drop ?n9 ?s9; (case n9 => assumption); (case s9 => intro p9 hp9; repeat (first | exact hp9 | refine List.Mem.tail _ ?_))))
      all_goals exact ⟨rfl, _, _, _, rfl, by k_asm, rfl, by first | k_asm | (refine' cb_drop ?n9 ?s9; (case n9 => assumption); (case s9 => intro p9 hp9; repeat (first | exact hp9 | refine List.Mem.tail _ ?_)))⟩
  rintro s₁ ⟨hgo, h2, tk2, m2, rfl, F2, b1, N2⟩
  cases ws with
  | nil => exact absurd rfl hne
  | cons w0 wr =>
  have hw0 : w0 ∈ WAYS10 := hws _ (by simp)
  have hW0 : WayIs ys 0 w0 := ⟨_, _, rfl, hys, Int.le_refl _, by simp, by simp at hlen ⊢; omega, rfl⟩
  rw [map1 b1] at F2
  refine cut_stmt (fun s₁ => (w0 == "L" || w0 == "R" || w0 == "AL") = true ∧ ∃ h3 tk3 m3, s₁ = { s with heap := h3, toks := tk3 } ∧ Fr g' L' h3 m3 ∧ m3 (Str.ofString "ways") = some (.ref D) ∧ News g' L' h3 news) ?_ ?_
  · simp only [WAYS10, List.mem_cons, List.not_mem_nil, or_false] at hw0
    have hr : (w0 == "L" || w0 == "R" || w0 == "AL") = false → ruleS (w0 :: wr) asked = some ("bidi_rule_1", 1) := fun e => by
      unfold ruleS
      rw [show (!((w0 :: wr).any isRtl) && !asked) = false from by rw [← Bool.not_or, hgo]; rfl]
      simp [e]
    rcases hw0 with rfl | rfl | rfl | rfl | rfl | rfl | rfl | rfl | rfl | rfl
    all_goals k_steps
    all_goals first
      | exact ⟨rfl, _, _, _, rfl, by k_asm, rfl, by first | k_asm | (refine' cb_drop ?n9 ?s9; (case n9 => assumption); (case s9 => intro p9 hp9; repeat (first | exact hp9 | refine List.Mem.tail _ ?_)))⟩
      | ((try dsimp only [Cut])
         (try k_steps)
         refine' retS _ _ (hr rfl) _ _ _ _ _ ?ra ?rb ?rc
         (case ra => k_asm)
         (case rb => refine' cb_drop ?n9 ?s9; (case n9 => assumption); (case s9 => intro p9 hp9; rcases List.mem_cons.mp hp9 with rfl | hp9; exact List.Mem.head _; repeat (first | exact hp9 | refine List.Mem.tail _ ?_)))
         (case rc => (with_reducible rename _ ∧ AllLt _ _ => l9); exact allLt_mem l9.2))
  rintro s₁ ⟨hlr, h3, tk3, m3, rfl, F3, b3, N3⟩
  rw [map1 b3] at F3
  refine cut_stmt (fun s₁ => ∃ h4 tk4 m4, s₁ = { s with heap := h4, toks := tk4 } ∧ Fr g' L' h4 m4 ∧ m4 (Str.ofString "ways") = some (.ref D) ∧ m4 (Str.ofString "right") = some (.bool (w0 != "L")) ∧ News g' L' h4 news) ?_ ?_
  · simp only [WAYS10, List.mem_cons, List.not_mem_nil, or_false] at hw0
    rcases hw0 with rfl | rfl | rfl | rfl | rfl | rfl | rfl | rfl | rfl | rfl
    all_goals try exact absurd hlr (by decide)
    all_goals k_steps
    all_goals exact ⟨_, _, _, rfl, by k_asm, rfl, rfl, by first | k_asm | (refine' cb_drop ?n9 ?s9; (case n9 => assumption); (case s9 => intro p9 hp9; repeat (first | exact hp9 | refine List.Mem.tail _ ?_)))⟩
  rintro s₁ ⟨h4, tk4, m4, rfl, F4, b4, b5, N4⟩
  clear hW0 F2 F3 N2 N3
  have hrule : ruleS (w0 :: wr) asked = ruleT (w0 != "L") (w0 :: wr) := ruleS_T hgo hlr
  have hlast : ∃ w ∈ w0 :: wr, w ≠ "NSM" := ⟨w0, by simp, by rintro rfl; revert hlr; decide⟩
  generalize (w0 != "L") = right at *
  generalize w0 :: wr = ws at *
  clear hw0 hlr hgo
  rw [map2 b4 b5] at F4
  k_steps
  with_reducible rename ∀ p ∈ news, p.1 < _ => hI
  refine rest_enumL (JW ys ws D right (scanW right ws 1 "")) hI hD ?step ?done ys 0 _ ⟨[], ws, "", _, rfl, hys, rfl, rfl, rfl, rfl, .inl rfl, rfl⟩
  case step =>
    intro j v r m1 hJ T1 t1 h1 tk1 o1 o2 hT1 F1 N1
    obtain ⟨d, r', fig, tf, hp, hr, hj, a1, a2, a3, hfig, hc⟩ := hJ
    cases r' with
    | nil => cases hr
    | cons way r'' =>
    obtain ⟨tw, e, hr'⟩ := strs_cons hr
    subst e
    clear hr
    have hin : way ∈ WAYS10 := hws _ (by rw [hp]; simp)
    obtain ⟨f1, f2, f3⟩ := way_facts way hin
    rw [map3 a1 a2 a3] at F1
    cases right
    · cases hR : isRtl way
      all_goals rw [hR] at f2
      all_goals simp [scanW, hR] at hc
      all_goals k_steps
      all_goals first
        | exact turnEnd_next (by k_asm) (by first | k_asm | (refine' cb_drop ?n9 ?s9; (case n9 => assumption); (case s9 => intro p9 hp9; repeat (first | exact hp9 | refine List.Mem.tail _ ?_)))) ⟨d ++ [_], r'', fig, _, by rw [hp, List.append_assoc]; rfl, hr', by rw [hj, List.length_append]; rfl, rfl, rfl, rfl, hfig, by first | exact hc | (simp [scanW]; exact hc)⟩
        | (dsimp only [TurnEnd]
           (try k_steps)
           refine' retS _ (j + 1) (by rw [hrule]; exact ruleT_some hc) _ _ _ _ _ ?ra ?rb ?rc
           (case ra => k_asm)
           (case rb => refine' cb_drop ?n9 ?s9; (case n9 => assumption); (case s9 => intro p9 hp9; rcases List.mem_cons.mp hp9 with rfl | hp9; exact List.Mem.head _; repeat (first | exact hp9 | refine List.Mem.tail _ ?_)))
           (case rc => first | ((with_reducible rename _ ∧ _ ∧ _ ∧ _ ∧ AllLt _ _ => l9); exact allLt_mem l9.2.2.2.2) | ((with_reducible rename _ ∧ _ ∧ _ ∧ AllLt _ _ => l9); exact allLt_mem l9.2.2.2) | ((with_reducible rename _ ∧ _ ∧ AllLt _ _ => l9); exact allLt_mem l9.2.2) | ((with_reducible rename _ ∧ AllLt _ _ => l9); exact allLt_mem l9.2)))
    · by_cases hN : way = "AN" ∨ way = "EN"
      · rcases hN with rfl | rfl <;> rcases hfig with rfl | rfl | rfl
        all_goals simp [scanW, isRtl] at hc
        all_goals k_steps
        all_goals first
          | exact turnEnd_next (by k_asm) (by first | k_asm | (refine' cb_drop ?n9 ?s9; (case n9 => assumption); (case s9 => intro p9 hp9; repeat (first | exact hp9 | refine List.Mem.tail _ ?_)))) ⟨d ++ [_], r'', _, _, by rw [hp, List.append_assoc]; rfl, hr', by rw [hj, List.length_append]; rfl, rfl, rfl, rfl, by simp, by first | exact hc | (simp [scanW]; exact hc)⟩
          | (dsimp only [TurnEnd]
             (try k_steps)
             refine' retS _ (j + 1) (by rw [hrule]; exact ruleT_some hc) _ _ _ _ _ ?ra ?rb ?rc
             (case ra => k_asm)
             (case rb => refine' cb_drop ?n9 ?s9; (case n9 => assumption); (case s9 => intro p9 hp9; rcases List.mem_cons.mp hp9 with rfl | hp9; exact List.Mem.head _; repeat (first | exact hp9 | refine List.Mem.tail _ ?_)))
             (case rc => first | ((with_reducible rename _ ∧ _ ∧ _ ∧ _ ∧ AllLt _ _ => l9); exact allLt_mem l9.2.2.2.2) | ((with_reducible rename _ ∧ _ ∧ _ ∧ AllLt _ _ => l9); exact allLt_mem l9.2.2.2) | ((with_reducible rename _ ∧ _ ∧ AllLt _ _ => l9); exact allLt_mem l9.2.2) | ((with_reducible rename _ ∧ AllLt _ _ => l9); exact allLt_mem l9.2)))
      · have hN' : (way == "AN" || way == "EN") = false := by simpa using hN
        rw [hN'] at f3
        cases hL : (way == "L")
        all_goals rw [hL] at f1
        all_goals simp [scanW, hL, hN'] at hc
        all_goals k_steps
        all_goals first
          | exact turnEnd_next (by k_asm) (by first | k_asm | (refine' cb_drop ?n9 ?s9; (case n9 => assumption); (case s9 => intro p9 hp9; repeat (first | exact hp9 | refine List.Mem.tail _ ?_)))) ⟨d ++ [_], r'', fig, _, by rw [hp, List.append_assoc]; rfl, hr', by rw [hj, List.length_append]; rfl, rfl, rfl, rfl, hfig, by first | exact hc | (simp [scanW]; exact hc)⟩
          | (dsimp only [TurnEnd]
             (try k_steps)
             refine' retS _ (j + 1) (by rw [hrule]; exact ruleT_some hc) _ _ _ _ _ ?ra ?rb ?rc
             (case ra => k_asm)
             (case rb => refine' cb_drop ?n9 ?s9; (case n9 => assumption); (case s9 => intro p9 hp9; rcases List.mem_cons.mp hp9 with rfl | hp9; exact List.Mem.head _; repeat (first | exact hp9 | refine List.Mem.tail _ ?_)))
             (case rc => first | ((with_reducible rename _ ∧ _ ∧ _ ∧ _ ∧ AllLt _ _ => l9); exact allLt_mem l9.2.2.2.2) | ((with_reducible rename _ ∧ _ ∧ _ ∧ AllLt _ _ => l9); exact allLt_mem l9.2.2.2) | ((with_reducible rename _ ∧ _ ∧ AllLt _ _ => l9); exact allLt_mem l9.2.2) | ((with_reducible rename _ ∧ AllLt _ _ => l9); exact allLt_mem l9.2)))
  case done =>
    intro j m1 hJ h1 tk1 F1 N1
    obtain ⟨d, r', fig, tf, hp, hr, hj, a1, a2, a3, hfig, hc⟩ := hJ
    cases r' with
    | cons way r'' => cases hr
    | nil =>
    replace hc : scanW right ws 1 "" = none := hc
    have hT : ruleT right ws = lastT right ws := ruleT_none hc
    rw [hT] at hrule
    rw [map2 a1 a2] at F1
    clear a1 a2 a3 hr hp hfig hj
    obtain ⟨hl1, hl2⟩ := lastW_pos hlast
    have hW : WayIs ys ((lastW ws 1 0 : Nat) - 1) (ws.getD (lastW ws 1 0 - 1) "") := by
      refine ⟨_, _, rfl, hys, by omega, by rw [List.length_map]; omega, by rw [List.length_map]; omega, ?_⟩
      rw [show (((lastW ws 1 0 : Nat) : Int) - 1).toNat = lastW ws 1 0 - 1 from by omega]
      exact getD_map ws _ (by omega)
    have hwl : ws.getD (lastW ws 1 0 - 1) "" ∈ WAYS10 := by
      rw [List.getD_eq_getElem?_getD, List.getElem?_eq_getElem (by omega)]
      exact hws _ (List.getElem_mem _)
    k_steps
    rename EnumAt _ _ _ _ _ _ _ _ _ => hX
    refine ⟨_, _, _, _, ys, rfl, hX, ?_, ?_, ?_, ?_⟩
    · rw [strs_len hys, sizeLine_eq]; omega
    · intro C i v t s₂ m₂ E' hC hi hNs hxa hxb hk
      have Fc := frInComp hNs hk hC
      obtain ⟨way, tv, hway, rfl⟩ := strs_at hys hi
      (with_reducible refine wpAny_leafK ?_)
      k_steps
    · intro C i v t s₂ m₂ E' hC hi hNs hxa hxb hk
      have Fc := frInComp hNs hk hC
      (with_reducible refine wpAny_leafK ?_)
      k_steps
    · intro D2 zs h2 tk2 F2 N2 hD2 off2 hc2
      have hM : MaxIs zs ((lastW ws 1 0 : Nat) - 1) := maxIs_of hys hws hlast hc2
      clear hc2
      generalize hwl9 : ws.getD (lastW ws 1 0 - 1) "" = wl at *
      generalize hlw : lastW ws 1 0 = lw at *
      have hlast2 : lastT right ws = if (if right then wl == "R" || wl == "AL" || wl == "EN" || wl == "AN" else wl == "L" || wl == "EN") then none else some (if right then "bidi_rule_3" else "bidi_rule_6", lw) := by
        unfold lastT; rw [hlw, hwl9]
      rw [hlast2] at hrule
      obtain ⟨e1, e2⟩ := end_facts wl hwl
      have hk1 : ((lw : Nat) : Int) - 1 + 1 = (lw : Nat) := by omega
      cases right
      · cases hb : (wl == "L" || wl == "EN")
        all_goals rw [hb] at e2
        all_goals simp [hb] at hrule
        all_goals k_steps
        all_goals first
          | (refine' retN hrule _ _ ?ra ?rb
             (case ra => k_asm)
             (case rb => first | k_asm | (refine' cb_drop ?n9 ?s9; (case n9 => assumption); (case s9 => intro p9 hp9; repeat (first | exact hp9 | refine List.Mem.tail _ ?_)))))
          | (rw [hk1] at *
             refine' retS _ lw hrule _ _ _ _ _ ?ra ?rb ?rc
             (case ra => k_asm)
             (case rb => refine' cb_drop ?n9 ?s9; (case n9 => assumption); (case s9 => intro p9 hp9; rcases List.mem_cons.mp hp9 with rfl | hp9; exact List.Mem.head _; repeat (first | exact hp9 | refine List.Mem.tail _ ?_)))
             (case rc => first | ((with_reducible rename _ ∧ _ ∧ _ ∧ _ ∧ AllLt _ _ => l9); exact allLt_mem l9.2.2.2.2) | ((with_reducible rename _ ∧ _ ∧ _ ∧ AllLt _ _ => l9); exact allLt_mem l9.2.2.2) | ((with_reducible rename _ ∧ _ ∧ AllLt _ _ => l9); exact allLt_mem l9.2.2) | ((with_reducible rename _ ∧ AllLt _ _ => l9); exact allLt_mem l9.2)))
      · cases hb : (wl == "R" || wl == "AL" || wl == "EN" || wl == "AN")
        all_goals rw [hb] at e1
        all_goals simp [hb] at hrule
        all_goals k_steps
        all_goals first
          | (refine' retN hrule _ _ ?ra ?rb
             (case ra => k_asm)
             (case rb => first | k_asm | (refine' cb_drop ?n9 ?s9; (case n9 => assumption); (case s9 => intro p9 hp9; repeat (first | exact hp9 | refine List.Mem.tail _ ?_)))))
          | (rw [hk1] at *
             refine' retS _ lw hrule _ _ _ _ _ ?ra ?rb ?rc
             (case ra => k_asm)
             (case rb => refine' cb_drop ?n9 ?s9; (case n9 => assumption); (case s9 => intro p9 hp9; rcases List.mem_cons.mp hp9 with rfl | hp9; exact List.Mem.head _; repeat (first | exact hp9 | refine List.Mem.tail _ ?_)))
             (case rc => first | ((with_reducible rename _ ∧ _ ∧ _ ∧ _ ∧ AllLt _ _ => l9); exact allLt_mem l9.2.2.2.2) | ((with_reducible rename _ ∧ _ ∧ _ ∧ AllLt _ _ => l9); exact allLt_mem l9.2.2.2) | ((with_reducible rename _ ∧ _ ∧ AllLt _ _ => l9); exact allLt_mem l9.2.2) | ((with_reducible rename _ ∧ AllLt _ _ => l9); exact allLt_mem l9.2)))
end Mine
end
section
open PySem PySem.W PySem.Calls PyProof.Rows PyProof.Rows.LCg
namespace Mine
/-! the plain law: the check says what the rule says -/
def endV (good : String → Bool) : List String → Bool → Bool
  | [], ve => ve
  | w :: r, ve => endV good r (if good w then true else if w == "NSM" then ve else false)
def goodR (w : String) : Bool := w == "R" || w == "AL" || w == "EN" || w == "AN"
def goodL (w : String) : Bool := w == "L" || w == "EN"
theorem endV_last {good : String → Bool} (hg : good "NSM" = false) : ∀ (ws : List String) (i l : Nat) (ve : Bool), l < i →
    endV good ws ve = if lastW ws i l < i then ve else good (ws.getD (lastW ws i l - i) "")
  | [], i, l, ve, h => by simp only [endV, lastW, h, if_true]
  | w :: r, i, l, ve, h => by
    by_cases hw : w = "NSM"
    · subst hw
      have e1 : endV good ("NSM" :: r) ve = endV good r ve := by simp [endV, hg]
      have e2 : lastW ("NSM" :: r) i l = lastW r (i + 1) l := by simp [lastW]
      rw [e1, e2, endV_last hg r (i + 1) l ve (by omega)]
      rcases lastW_ge r (i + 1) l with ⟨_, h2⟩ | ⟨_, h1, _⟩
      · rw [h2, if_pos (by omega), if_pos h]
      · rw [if_neg (by omega), if_neg (by omega), show lastW r (i + 1) l - i = (lastW r (i + 1) l - (i + 1)) + 1 from by omega]
        rfl
    · have e : (w == "NSM") = false := by simpa using hw
      have e1 : endV good (w :: r) ve = endV good r (good w) := by simp only [endV, e]; cases good w <;> rfl
      have e2 : lastW (w :: r) i l = lastW r (i + 1) i := by simp only [lastW, e]; rfl
      rw [e1, e2, endV_last hg r (i + 1) i (good w) (by omega)]
      rcases lastW_ge r (i + 1) i with ⟨_, h2⟩ | ⟨_, h1, _⟩
      · rw [h2, if_pos (by omega), if_neg (by omega), Nat.sub_self]; rfl
      · rw [if_neg (by omega), if_neg (by omega), show lastW r (i + 1) i - i = (lastW r (i + 1) i - (i + 1)) + 1 from by omega]
        rfl
def numF : Option String → String
  | none => ""
  | some n => n
theorem scanR_W : ∀ (ws : List String) (j : Nat) (num : Option String) (ve : Bool) (ei : Nat), (∀ n, num = some n → n ≠ "") →
    scanR ws j num ve ei = match scanW true ws j (numF num) with
      | some x => some x
      | none => if endV goodR ws ve then none else some ("bidi_rule_3", lastW ws j ei)
  | [], j, num, ve, ei, _ => by cases ve <;> rfl
  | w :: r, j, num, ve, ei, hn => by
    simp only [scanR, scanW, endV, lastW, Bool.true_and, Bool.not_true, Bool.false_and, Bool.false_eq_true, if_false]
    by_cases hL : w = "L"
    · subst hL; simp
    have eL : (w == "L") = false := by simpa using hL
    rw [eL]
    simp only [Bool.false_eq_true, if_false]
    have hve : (if w == "R" || w == "AL" || w == "EN" || w == "AN" then true else if w == "NSM" then ve else false) = (if goodR w then true else if w == "NSM" then ve else false) := rfl
    rw [hve]
    by_cases hN : (w == "AN" || w == "EN") = true
    · rw [hN]
      simp only [if_true]
      have hw0 : w ≠ "" := by rintro rfl; revert hN; decide
      cases num with
      | none =>
        simp only [numF, beq_self_eq_true, Bool.true_or, if_true]
        exact scanR_W r (j + 1) (some w) _ _ (by rintro n ⟨⟩; exact hw0)
      | some n =>
        have hn0 : n ≠ "" := hn n rfl
        have e0 : (n == "") = false := by simpa using hn0
        simp only [numF, e0, Bool.false_or]
        by_cases hnw : n = w
        · subst hnw
          simp only [beq_self_eq_true, if_true]
          exact scanR_W r (j + 1) (some n) _ _ (by rintro m ⟨⟩; exact hn0)
        · have e1 : (n == w) = false := by simpa using hnw
          simp only [e1, Bool.false_eq_true, if_false]
    · have hN' : (w == "AN" || w == "EN") = false := by simpa using hN
      rw [hN']
      simp only [Bool.false_eq_true, if_false]
      exact scanR_W r (j + 1) num _ _ hn
theorem scanL_W : ∀ (ws : List String) (j : Nat) (fig : String) (ve : Bool) (ei : Nat),
    scanL ws j ve ei = match scanW false ws j fig with
      | some x => some x
      | none => if endV goodL ws ve then none else some ("bidi_rule_6", lastW ws j ei)
  | [], j, fig, ve, ei => by cases ve <;> rfl
  | w :: r, j, fig, ve, ei => by
    simp only [scanL, scanW, endV, lastW, Bool.false_and, Bool.not_false, Bool.true_and, Bool.false_eq_true, if_false]
    cases hR : isRtl w
    · simp only [Bool.false_eq_true, if_false]
      exact scanL_W r (j + 1) fig _ _
    · simp
theorem lastW_first {w0 : String} {wr : List String} (h : w0 ≠ "NSM") (l : Nat) : lastW (w0 :: wr) 1 l = lastW wr 2 1 := by
  have e : (w0 == "NSM") = false := by simpa using h
  simp only [lastW, e]; rfl
theorem chk_rule {ws : List String} (asked : Bool) (hne : ws ≠ []) : chk ws asked = ruleS ws asked := by
  cases ws with
  | nil => exact absurd rfl hne
  | cons w0 wr =>
  unfold chk ruleS
  dsimp only
  by_cases hg : (!((w0 :: wr).any isRtl) && !asked) = true
  · rw [if_pos hg, if_pos hg]
  rw [if_neg hg, if_neg hg]
  have hlast : w0 ≠ "NSM" → ∀ good : String → Bool, good "NSM" = false → endV good (w0 :: wr) false = good ((w0 :: wr).getD (lastW (w0 :: wr) 1 0 - 1) "") := fun h good hgd => by
    have := endV_last hgd (w0 :: wr) 1 0 false (by omega)
    have hp := (lastW_pos (ws := w0 :: wr) ⟨w0, List.mem_cons_self, h⟩).1
    rwa [if_neg (by omega)] at this
  by_cases hr : (w0 == "R" || w0 == "AL") = true
  · have h0 : w0 ≠ "L" := by rintro rfl; revert hr; decide
    have hn : w0 ≠ "NSM" := by rintro rfl; revert hr; decide
    have e1 : (w0 == "L") = false := by simpa using h0
    have e2 : (w0 != "L") = true := by simp [bne, e1]
    have e3 : (w0 == "L" || w0 == "R" || w0 == "AL") = true := by rw [e1, Bool.false_or]; exact hr
    rw [if_pos hr, scanR_W _ 1 none false 1 (by rintro n ⟨⟩), hlast hn goodR rfl, lastW_first hn, lastW_first hn, e2, e3]
    rfl
  rw [if_neg hr]
  have hr' : (w0 == "R" || w0 == "AL") = false := by simpa using hr
  by_cases hl : w0 = "L"
  · subst hl
    rw [if_pos (by decide : ("L" == "L") = true), scanL_W _ 1 "" false 1, hlast (by decide) goodL rfl, lastW_first (by decide), lastW_first (by decide)]
    rfl
  · have e1 : (w0 == "L") = false := by simpa using hl
    have e3 : (w0 == "L" || w0 == "R" || w0 == "AL") = false := by rw [e1, Bool.false_or]; exact hr'
    rw [e3, e1]
    rfl
/-! the law's own tables -/
def SG : List Str := (["a", "\u00fc", "7", "\u05d0", "\u0628", "\u0663", "\u06f4", "-", "\u0301", "\u00b7", "z", "\u05ea", "\u200c", ":"] : List String).map Str.ofString
def WG : List String := ["L", "L", "EN", "R", "AL", "AN", "EN", "ES", "NSM", "ON", "L", "R", "BN", "CS"]
def pk (k : Nat) : Nat × String := SIGNS.getD k (97, "L")
theorem pk_in : ∀ k, pk k ∈ SIGNS := fun k => by
  by_cases h : k < SIGNS.length
  · unfold pk; rw [List.getD_eq_getElem?_getD, List.getElem?_eq_getElem h]; exact List.getElem_mem _
  · unfold pk; rw [List.getD_eq_getElem?_getD, List.getElem?_eq_none (by omega)]; decide
theorem sg_pk : ∀ k, k < 14 → SG.getD k Str.empty = ⟨#[(pk k).1]⟩ := by decide +kernel
theorem wg_pk : ∀ k, k < 14 → WG.getD k "" = (pk k).2 := by decide +kernel
theorem signs_in {P : Params} {h : Heap} (X : (hd.heap_39 P).In h) : ∃ vs, h.IsList 80 vs.toArray ∧ StrsAre vs SG := by
  refine ⟨_, ⟨_, X 80 _ rfl, rfl, _, rfl⟩, ?_⟩
  unfold SG
  simp only [List.map_cons, List.map_nil]
  repeat (first | exact .nil | refine .cons _ _ ?_)
theorem ways_in {P : Params} {h : Heap} (X : (hd.heap_39 P).In h) : ∃ vs, h.IsList 81 vs.toArray ∧ StrsAre vs (WG.map Str.ofString) := by
  refine ⟨_, ⟨_, X 81 _ rfl, rfl, _, rfl⟩, ?_⟩
  unfold WG
  simp only [List.map_cons, List.map_nil]
  repeat (first | exact .nil | refine .cons _ _ ?_)
def CODES : List String := ["bidi_rule_1", "bidi_rule_2", "bidi_rule_3", "bidi_rule_4", "bidi_rule_5", "bidi_rule_6"]
theorem scanW_code {right : Bool} {c : String} {k : Nat} : ∀ (ws : List String) (j : Nat) (fig : String), scanW right ws j fig = some (c, k) → c ∈ CODES
  | [], _, _, h => by simp [scanW] at h
  | w :: r, j, fig, h => by
    simp only [scanW] at h
    split at h
    · injection h with h; injection h with h _; subst h; decide
    split at h
    · injection h with h; injection h with h _; subst h; decide
    split at h
    · split at h
      · exact scanW_code r _ _ h
      · injection h with h; injection h with h _; subst h; decide
    · exact scanW_code r _ _ h
theorem lastT_code {right : Bool} {ws : List String} {c : String} {k : Nat} (h : lastT right ws = some (c, k)) : c ∈ CODES := by
  unfold lastT at h
  generalize (if right then ws.getD (lastW ws 1 0 - 1) "" == "R" || ws.getD (lastW ws 1 0 - 1) "" == "AL" || ws.getD (lastW ws 1 0 - 1) "" == "EN" || ws.getD (lastW ws 1 0 - 1) "" == "AN" else ws.getD (lastW ws 1 0 - 1) "" == "L" || ws.getD (lastW ws 1 0 - 1) "" == "EN") = q at h
  cases q
  · cases right
    · injection h with h; injection h with h _; subst h; decide
    · injection h with h; injection h with h _; subst h; decide
  · cases h
theorem ruleS_code {ws : List String} {b : Bool} {c : String} {k : Nat} (h : ruleS ws b = some (c, k)) : c ∈ CODES := by
  unfold ruleS at h
  split at h
  · cases h
  cases ws with
  | nil => cases h
  | cons w0 wr =>
    dsimp only at h
    split at h
    · injection h with h; injection h with h _; subst h; decide
    · change ruleT (w0 != "L") (w0 :: wr) = some (c, k) at h
      unfold ruleT at h
      split at h
      · rename_i x hx
        injection h with h
        subst h
        exact scanW_code _ _ _ hx
      · exact lastT_code h
theorem code_ok : ∀ c ∈ CODES, PyData.strOk (Str.ofString c) = true := by decide +kernel
theorem ne_pair {prog : Program} {w : World} {A : Around} {E : Value → Shared → Prop} {s : Shared} {a b : Addr} {c : Str} {p : Int} {t1 t2 t3 t4 : Tok} {Q : Value → Shared → Prop} {oa ob : Obj} {na nb : Nat} (hc : PyData.strOk c = true)
    (ha : s.heap.get? a = some oa) (hb : s.heap.get? b = some ob) (ca : oa.cls = .type "tuple") (cb : ob.cls = .type "tuple") (da : oa.data = .seq #[.str c t1, .int p t2] na) (db : ob.data = .seq #[.str c t3, .int p t4] nb) (hu : A.units + 64 < cLine) (h : Q (.bool false) s) : wpAny (model prog w) A (compareOp .NotEq (.ref a) (.ref b)) Q E s := by
  have hs : SeqAt.shaped (PyData.tuple [PyData.str c, PyData.int p]) = true := by simp [SeqAt.shaped, PyData.canLay0, PyData.canLayAll0, PyData.depth, PyData.depthAll, hc]
  refine ne_dataH (reads_tuple_at ha ca da (ReadsAll.cons (Reads.str _ _) (ReadsAll.cons (Reads.int _ _) ReadsAll.nil))) (reads_tuple_at hb cb db (ReadsAll.cons (Reads.str _ _) (ReadsAll.cons (Reads.int _ _) ReadsAll.nil))) hs hs hu ?_
  simp only [PyData.eqv, PyData.eqvAll, beq_self_eq_true, Bool.and_true, Bool.not_true, decide_true]
  exact h
end Mine
end
section
open PySem PySem.W PySem.W.X PySem.Calls PyProof.Rows Builtin Builtin.ObjectAttr Builtin.Getset_descriptor
namespace Mine
section
variable {M : Model} {A : Around} {E : Value → Shared → Prop} {s : Shared}
theorem setFlight_D {B : Heap} {l : List Env} {e : Addr} {mA : Str → Option Value} {fl : Value} {Q : Unit → Shared → Prop}
    (hh : FlyD B l e mA fl s.heap) (h : ∀ h', FlyD B l e mA .none h' → s.heap.UpToSlots h' → Q () { s with heap := h' }) : wpAny M A (setFlight (.ref e) none) Q E s := by
  obtain ⟨hkb, hen, hl, dx, vs, T, oT, ts, he, h1, hnT, hTe, hT, hdT, h3, hde, hdB, hns⟩ := hh
  have hsz3 : 3 < ts.size := (Array.getElem?_eq_some_iff.mp h3).1
  have other : ∀ b, b ≠ T → (s.heap.update T (Obj.mapFields (·.setIfInBounds 3 ((none : Option Addr).elim Value.none fun f => rawInt f)))).get? b = s.heap.get? b :=
    fun b hb => Heap.get?_update_other _ _ (Ne.symm hb)
  have noRecord : ∀ b o, s.heap.get? b = some o → (∀ vs, o.data ≠ .fields vs) → b ≠ T := fun b o hb hnf q => by
    rw [q, hT] at hb; injection hb with hb; subst hb; exact hnf ts hdT
  unfold setFlight
  refine wpAny_bind (wpAny_field he rfl h1 ?_)
  rw [if_pos (show (Value.ref T != Value.none) = true from by simp)]
  refine wpAny_setField hT hdT hsz3 (h _ ⟨fun b o hbo => (other b fun q => by rw [q, hnT] at hbo; cases hbo).trans (hkb b o hbo), hen,
    hl.of_keeps fun b o hb hnf => ⟨o, (other b (noRecord b o hb hnf)).trans hb, rfl⟩, ?_⟩ fun b o hb hnf => ⟨o.slots, (other b (noRecord b o hb hnf)).trans hb⟩)
  exact ⟨dx, vs, T, _, _, (other e (Ne.symm hTe)).trans he, h1, hnT, hTe, Heap.get?_update_self _ hT (Obj.isFreed_of_fields (Obj.data_mapFields hdT _)), Obj.data_mapFields hdT _, by simp [hsz3], hde, hdB,
    ns1_keep hns fun o q hnf => ⟨o.slots, (other _ (noRecord _ o q hnf)).trans q⟩⟩
theorem noteFrame_D {B : Heap} {env : Env} {outer : List Env} {L e : Addr} {mA : Str → Option Value} {Q : Unit → Shared → Prop}
    (hfr : A.frames = some (env :: outer)) (hf : env.frame = some L) (hh : FlyD B (env :: outer) e mA .none s.heap)
    (h : ∀ h', FlyD B (env :: outer) e mA (rawInt L) h' → s.heap.UpToSlots h' → Q () { s with heap := h' }) : wpAny M A (noteFrame (.ref e) env) Q E s := by
  obtain ⟨hkb₀, hen, hl₀, dx, vs, T, oT, ts, he₀, h1, hnT, hTe, hT, hdT, h3, hde, hdB, hns₀⟩ := hh
  unfold noteFrame
  simp only [hf]
  refine wpAny_bind (wpAny_field he₀ rfl h1 ?_)
  rw [if_pos (show (Value.ref T != Value.none) = true from by simp)]
  refine wpAny_bind (wpAny_field hT hdT h3 ?_)
  rw [if_neg (show ¬ ((Value.none == rawInt L) = true) from by simp [rawInt])]
  refine wpAny_bind (wpAny_setField hT hdT (Array.getElem?_eq_some_iff.mp h3).1 ?_)
  have other : ∀ b, b ≠ T → (s.heap.update T (Obj.mapFields (·.setIfInBounds 3 Value.none))).get? b = s.heap.get? b := fun b hb => Heap.get?_update_other _ _ (Ne.symm hb)
  have noRecord : ∀ b o, s.heap.get? b = some o → (∀ vs, o.data ≠ .fields vs) → b ≠ T := fun b o hb hnf q => by
    rw [q, hT] at hb; injection hb with hb; subst hb; exact hnf ts hdT
  generalize hg : s.heap.update T (Obj.mapFields (·.setIfInBounds 3 Value.none)) = g at other ⊢
  have hl : g.FunFrames B (env :: outer) := hl₀.of_keeps fun b o hb hnf => ⟨o, (other b (noRecord b o hb hnf)).trans hb, rfl⟩
  have he : g.get? e = some ⟨.ref 62, some dx, .fields vs, #[]⟩ := (other e (Ne.symm hTe)).trans he₀
  have hkb : B.StaysIn g := fun b o hbo => (other b fun q => by rw [q, hnT] at hbo; cases hbo).trans (hkb₀ b o hbo)
  have hns : g.Ns1 dx mA := ns1_keep hns₀ fun o q hnf => ⟨o.slots, (other _ (noRecord _ o q hnf)).trans q⟩
  have up : s.heap.UpToSlots g := fun b o hb hnf => ⟨o.slots, (other b (noRecord b o hb hnf)).trans hb⟩
  have hsz : 1 < vs.size := (Array.getElem?_eq_some_iff.mp h1).1
  have hene : e ∉ (env :: outer).filterMap (·.frame) := fun hm => by
    obtain ⟨_, o, ho, hnf⟩ := hl.mem hm
    rw [he] at ho; injection ho with ho; subst ho; exact hnf vs rfl
  clear hns₀ he₀ hl₀ hkb₀
  refine wpAny_bind (wpAny_frameOf_fun hfr hl hf fun h₁ hs₁ => ?_)
  refine wpAny_bind (wpAny_entryPlaceOf fun pl hpl => ?_)
  unfold EntryCells.newEntry newFields
  refine wpAny_bind (wpAny_newObj_type ?_ (hpl.sizeOk5 _ _ _ _ _))
  have he₁ : h₁.get? e = some ⟨.ref 62, some dx, .fields vs, #[]⟩ := (hs₁.2.1 e hene).trans he
  have kb₁ : B.StaysIn h₁ := fun b o hbo => (hs₁.2.1 b fun hm => by rw [(hl.mem hm).1] at hbo; cases hbo).trans (hkb b o hbo)
  have ns₁ : h₁.Ns1 dx mA := ns1_keep hns fun o q hnf => hs₁.2.2 _ _ q
  generalize hto : ({ cls := .type "traceback", dict := none, data := .fields ([Value.ref T, .ref L, .none, rawInt L, .none] ++ (if pl.isEmpty then List.replicate 6 Value.none else pl)).toArray } : Obj) = to
  have he₂ := Heap.get?_push_of_some (h := h₁) to he₁
  have dto : to.data = .fields ([Value.ref T, .ref L, .none, rawInt L, .none] ++ (if pl.isEmpty then List.replicate 6 Value.none else pl)).toArray := by rw [← hto]
  have hTe' : h₁.objs.size ≠ e := Nat.ne_of_gt (Heap.lt_size he₁)
  have keep : ∀ b o, b ≠ e → h₁.get? b = some o → ((h₁.push to).update e (Obj.mapFields (·.setIfInBounds 1 (Value.ref h₁.objs.size)))).get? b = some o := fun b o hbe hb => by
    rw [Heap.get?_update_other _ _ (Ne.symm hbe)]
    exact Heap.get?_push_of_some _ hb
  refine wpAny_setField he₂ rfl hsz (h _ ⟨?_, hen, ?_, ?_⟩ ?_)
  · exact fun b o hbo => keep b o (fun q => by rw [q, hen] at hbo; cases hbo) (kb₁ b o hbo)
  · exact hl.of_keeps fun b o hb hnf => by
      obtain ⟨sl, hs⟩ := hs₁.2.2 b o hb
      exact ⟨_, keep b _ (fun q => by rw [q, he] at hb; injection hb with hb; subst hb; exact hnf vs rfl) hs, rfl⟩
  · have he₃ := Heap.get?_update_self (Obj.mapFields (·.setIfInBounds 1 (Value.ref h₁.objs.size))) he₂ rfl
    have hT₃ := (Heap.get?_update_other (h₁.push to) (Obj.mapFields (·.setIfInBounds 1 (Value.ref h₁.objs.size))) (Ne.symm hTe')).trans (Heap.get?_push_size h₁ (by rw [← hto]; rfl))
    exact ⟨dx, _, h₁.objs.size, _, _, he₃, by simp [hsz], kb₁.fresh, hTe', hT₃, dto, by simp, hde, hdB, ns1_keep ns₁ fun o q _ => ⟨o.slots, keep _ _ hde q⟩⟩
  · intro b o hb hnf
    obtain ⟨sl₀, hb'⟩ := up b o hb hnf
    obtain ⟨sl, hs⟩ := hs₁.2.2 b _ hb'
    exact ⟨sl, keep b _ (fun q => by rw [q, he] at hb'; injection hb' with hb'; rw [show o.data = .fields vs from (congrArg Obj.data hb').symm] at hnf; exact hnf vs rfl) hs⟩
end
/-- the dict of an exception's attributes -/
def DictIs (od : Obj) (mA : Str → Option Value) : Prop := ∃ es ep, od.data = .dict es ep ∧ StrKeys es ∧ ∀ y, nsFind es y = mA y
theorem DictIs.look {od : Obj} {mA : Str → Option Value} {x : Str} {v : Value} (D : DictIs od mA) (h : mA x = some v) : lookIn x od = some (some v) := by
  obtain ⟨es, ep, hd, _, hf⟩ := D
  unfold lookIn
  rw [hd]
  have q : (es.find? fun e => e.key.isStr x).map (·.val) = some v := by rw [← h, ← hf x]; rfl
  rw [← Array.find?_toList] at q
  cases z : es.toList.find? (fun e => e.key.isStr x) with
  | none => rw [z] at q; cases q
  | some e => rw [z] at q; simp only [Option.map_some, Option.some.injEq] at q; simp [z, q]
theorem cls62 {P : Params} {h : Heap} (X : (hd.heap_39 P).In h) : ∃ nm q N bs bm hdct sn sub ab col dd k0 k1 k2 k3 k5 newId, h.get? 62 = some (excClassObj nm q 62 N bs bm hdct sn sub ab col dd k0 k1 k2 k3 k5 newId) ∧ bm.contains (.type "BaseException") = true :=
  ⟨_, _, _, _, _, _, _, _, _, _, _, _, _, _, _, _, _, X 62 _ rfl, by decide +kernel⟩
theorem caught_D {P : Params} {prog : Program} {w : World} {A : Around} {E : Value → Shared → Prop} {s' : Shared} {h₀ h : Heap} {outer : List Env} {env : Env} {L e : Addr} {m mA : Str → Option Value} {n x x0 : Str} {v0 : Value} {b₀ : Stmt} {suite : List Stmt} {pos np : Pos} {rest : List ExceptHandler} {Q : Flow → Shared → Prop} {news : List (Addr × Obj)}
    (hfr : A.frames = some (env :: outer)) (hf : env.frame = some L) (hL : env.locals = L) (F : Fr h₀ L h m) (hsm : h.UpToSlots s'.heap) (R : RaisedD h₀ (env :: outer) e mA news s'.heap) (X : (hd.heap_39 P).In h₀)
    (hno : m x0 = none) (hA : mA x0 = some v0)
    (hname : ∀ (A : Around) (E : Value → Shared → Prop) (Q : Value → Shared → Prop) (s : Shared), Fr h₀ L s.heap m → Q (.ref 62) s → wpAny (model prog w) A (eval (.Name x np) env) Q E s)
    (hlo : env.kindOf n = some .local) (hp : (env.scope.kind == .class || (env.scope.kind == .module && env.locals != env.globals)) = false)
    (k : ∀ h' tk dx vs od, DictIs od mA → Fr h₀ L h' (fun y => if y = n then some (.ref e) else m y) → News h₀ L h' ((e, (⟨.ref 62, some dx, .fields vs, #[]⟩ : Obj)) :: (dx, od) :: news) →
      wpAny (model prog w) (A.mark (some (.ref e))) (execs (b₀ :: suite) env)
        (fun f s₄ => wpAny (model prog w) A (do bindName env n .none; unbindBehindTheSuite env n pos) (fun _ s₅ => Q f s₅) E s₄)
        (AsSuiteRaised (model prog w) (A.mark (some (.ref e))) env n pos (notedBy (model prog w) (A.mark (some (.ref e))) env (cameBackBy (model prog w) A env E)))
        { s' with heap := h', toks := tk }) :
    wpAny (model prog w) A (noteFrame (.ref e) env)
      (fun _ s₂ => wpAny (model prog w) A (setFlight (.ref e) none) (fun _ s₃ =>
        wpAny (model prog w) A (handleBy (.ref e) env (.ExceptHandler (some (.Name x np)) (some n) (b₀ :: suite) pos :: rest)) Q E s₃) E s₂) E s' := by
  obtain ⟨B, hB, hl, hfl⟩ := R
  have hLB : B.get? L = none := by
    obtain ⟨_, ⟨L', _, hf', hn', _⟩, _⟩ := hfl.2.2.1
    obtain rfl : L = L' := Option.some.inj (hf.symm.trans hf')
    exact hn'
  have base : ∀ g, FlyD B (env :: outer) e mA .none g → h₀.StaysIn g := fun g z b o q => z.1 b o (hB b o q)
  refine noteFrame_D hfr hf hfl fun h₄ hheld₄ hsm₄ => ?_
  refine setFlight_D hheld₄ fun h₅ hheld hsm₅' => ?_
  have hsm₅ := hsm₄.trans hsm₅'
  have F₅ := F.of_stays (base _ hheld) (hsm.trans hsm₅)
  obtain ⟨dx, vs, T, oT, ts, he, h1, hnT, hTe, hT, hdT, h3, hde, hdB, hns⟩ := id hheld.2.2.2
  refine wpAny_handleBy_cons (codeAny_handlers_test (hname _ _ _ _ F₅ ?_)) (by intro q; cases q)
  obtain ⟨nm, q, N, bs, bm, hdct, sn, sub, ab, col, dd, k0, k1, k2, k3, k5, newId, hC, hbase⟩ := cls62 (Frag.In.keeps X F₅.keep)
  refine wpAny_excMatches_sub_self hC he rfl hbase (codeAny_handlers_suite_as ?_)
  refine setFlight_D hheld fun h₆ hfl₆ hsm₆ => ?_
  have F₆ := F.of_stays (base _ hfl₆) ((hsm.trans hsm₅).trans hsm₆)
  obtain ⟨dx, vs, T, oT, ts, he, h1, hnT, hTe, hT, hdT, h3, hde, hdB, hns⟩ := id hfl₆.2.2.2
  have hnsL := F₆.ns
  have heL : e ≠ L := fun q => by
    obtain ⟨o, es, ep, g1, g2, _⟩ := hnsL
    rw [← q, he] at g1
    injection g1 with g1
    rw [← g1] at g2
    cases g2
  have hdL : dx ≠ L := fun q => by
    obtain ⟨o, es, ep, g1, g2, _, g4⟩ := hnsL
    obtain ⟨o', es', ep', f1, f2, _, _, f5⟩ := hns
    rw [q, g1] at f1
    injection f1 with f1
    subst f1
    rw [g2] at f2
    injection f2 with f2
    subst f2
    have := (g4 x0).symm.trans (f5 x0)
    rw [hno, hA] at this
    cases this
  obtain ⟨od, es, ep, f1, f2, f3, f4, f5⟩ := hns
  have N₆ : News h₀ L h₆ ((e, (⟨.ref 62, some dx, .fields vs, #[]⟩ : Obj)) :: (dx, od) :: news) := fun q hq => by
    rcases List.mem_cons.mp hq with rfl | hq
    · exact ⟨he, heL, fresh_of_stays hB hfl₆.2.1⟩
    · rcases List.mem_cons.mp hq with rfl | hq
      · exact ⟨f1, hdL, fresh_of_stays hB hdB⟩
      · exact ⟨hfl₆.1 _ _ (hl q hq).1, (fun z => by have := (hl q hq).1; rw [z, hLB] at this; cases this), (hl q hq).2⟩
  refine wpAny_storeName_local hlo (by rw [hL]; exact F₆.ns) (fun h₇ hn₇ hs₇ => ?_) hp
  rw [hL] at hn₇ hs₇
  exact k h₇ _ dx vs od ⟨es, ep, f2, f3, f5⟩ (F₆.set hn₇ hs₇) (N₆.set hs₇)
end Mine
end
section
open PySem PySem.W PySem.W.X PySem.Calls PyProof.Rows Builtin Builtin.ObjectAttr Builtin.Getset_descriptor
namespace Mine
set_option maxRecDepth 100000 in
set_option maxHeartbeats 4000000 in
theorem exc_get {w : World} {A : Around} {E : Value → Shared → Prop} {h : Heap} {g : Array GenState} {d : Drawn} {t : Nat} {os : OsState} {e : Addr} {ox od : Obj} {name : Str} {v : Value} {expr : Bool} {Q : Value → Shared → Prop}
    (X : (hd.heap_39 w.params).In h) (ha : findIn (hd.heap_39 w.params) (.ref 62) name = some none) (J : PySem.W.InstAt h e ox 62 (some od)) (hl : lookIn name od = some (some v)) (hv : handedIn v = true)
    (hq : Q v ⟨h, g, d, t + 1, os⟩) :
    wpAny (MD w) A (getAttr (.ref e) name expr) Q E ⟨h, g, d, t, os⟩ := by
  revert X ha; delta MD; k_fill; intro X ha
  have hga : findIn (hd.heap_39 w.params) (.ref 62) "__getattribute__" = some (some (.builtin "BaseException.__getattribute__")) := by k_is
  have hgn : findIn (hd.heap_39 w.params) (.ref 62) "__getattr__" = some none := by k_is
  have hdi : hasDictIn (hd.heap_39 w.params) 62 = true := by k_is
  have L0 : Looks (model PySem.Challenge.rw_fc0083_01.row.prog w) h (typeOf (.ref e)) (.ref 62) := J.type
  have L1 := looks_findIn (M := model PySem.Challenge.rw_fc0083_01.row.prog w) X hga
  have L2 := looks_findIn (M := model PySem.Challenge.rw_fc0083_01.row.prog w) X hgn
  have L3 := looks_find (M := model PySem.Challenge.rw_fc0083_01.row.prog w) X J (findObj_own hdi ha rfl hl)
  have FA := PySem.F.attr_ValueError
  have f3 := FA.ga.bind (.ref e)
  have hx0 : (expr && onTheHeap (Value.builtin "BaseException.__getattribute__")) = false := by cases expr <;> rfl
  have hx2 : (Value.builtin "BaseException.__getattribute__" == Value.builtin "object.__getattribute__") = false := by decide +kernel
  have hx1 : (onTheHeap (Value.ref 62) && Value.builtin "BaseException.__getattribute__" == Value.builtin "object.__getattribute__") = false := by rw [hx2]; rfl
  have hk : builtinKind "BaseException.__getattribute__" = some .slot := by decide +kernel
  have hsplit : splitId "BaseException.__getattribute__" = some ("BaseException", "__getattribute__") := by decide +kernel
  have sub : Looks (model PySem.Challenge.rw_fc0083_01.row.prog w) h (isInstance (.ref e) (.type "BaseException")) true := J.type.andThen (looks_mroIn X (by k_is))
  have hho : handedOut v = pure v := handedOut_of hv
  unfold getAttr getAttrBy
  repeat (any_goals (first | assumption | with_reducible refine L0.at ?_ | with_reducible refine L1.at ?_ | with_reducible refine L2.at ?_ | wp_step))
  show codeAny _ _ (.call (.builtin "BaseException.__getattribute__") ⟨[.ref e, .str name t], []⟩) _ _
  refine codeAny_call_builtin FA.ga.plain PySem.F.entry_bexc_ga ?_
  with_reducible refine check_slot (owner := "BaseException") (n := "__getattribute__") (self := .ref e) (rest := [.str name t]) (kw := []) hk hsplit sub (PySem.F.args_bexc_ga (.ref e) (.str name t)) ?_
  delta Builtin.«object.__getattribute__»
  refine wpAny_bind (wpAny_pure ?_)
  refine wpAny_bind (wpAny_pure ?_)
  refine wpAny_bind (L0.at ?_)
  refine wpAny_bind (L3.at ?_)
  refine wpAny_pure ?_
  show wpAny _ _ (handedOut v) _ _ _
  rw [hho]
  exact wpAny_pure hq
end Mine
end
section
open PySem PySem.W PySem.Calls PyProof.Rows PyProof.Rows.LCg
namespace Mine
/-- the law's picks -/
def Picks (ys : List Value) (ks : List Nat) : Prop := IntsAre ys (ks.map fun (k : Nat) => (k : Int)) ∧ (∀ k ∈ ks, k < 14) ∧ 1 ≤ ks.length ∧ ks.length ≤ 6
theorem fm14 (a : Int) : 0 ≤ a.fmod 14 ∧ a.fmod 14 < 14 := by rw [Int.fmod_eq_emod_of_nonneg a (by decide)]; omega
theorem picks_of {ys : List Value} {f : Int → Int} {n : Int} (h : IntsAre ys (List.map f (rangeKs 0 n.toNat))) (hb : ∀ a : Int, 0 ≤ f a ∧ f a < 14) (h1 : 1 ≤ n) (h2 : n ≤ 6) : ∃ ks, Picks ys ks := by
  have hl : (rangeKs 0 n.toNat).length = n.toNat := rangeKs_length _ _
  generalize rangeKs 0 n.toNat = l at h hl
  refine ⟨l.map fun k => (f k).toNat, ?_, ?_, ?_, ?_⟩
  · rw [List.map_map]
    have : f = (fun (k : Nat) => (k : Int)) ∘ fun k => (f k).toNat := by
      funext k
      have := hb k
      simp only [Function.comp]; omega
    rwa [← this]
  · intro k hk
    obtain ⟨a, _, rfl⟩ := List.mem_map.mp hk
    have := hb a
    omega
  · rw [List.length_map]; omega
  · rw [List.length_map]; omega

theorem comp_pack {α : Type} {prog : Program} {w : World} {A : Around} {E : Value → Shared → Prop} {s : Shared} {env : Env} {h₀ : Heap} {L : Addr} {m : Str → Option Value} {elt iter : Expr} {x : Str} {px : Pos} {ifs : List Expr} {scope : Scope} {cl : List (Str × Addr)} {pos : Pos} {Q : Value → Shared → Prop} (K : ItemKind α) (pz : α → Bool) (d : α → PyData)
    (_ : Fr h₀ L s.heap m) (hh : A.handled = none) (hclos : closureFor scope env = pure cl) (hcell : ∀ y ∈ scope.names, y.2 ≠ .cell) (hkind : scope.kind = .function)
    (hnames : ∀ y ∈ scope.names, y.2 = .local → scope.names.lookup y.1 = some .local) (hx : scope.names.lookup x = some .local)
    (h : wpAny (model prog w) A (eval iter env) (fun xv s₁ => Pack (∃ news : List (Addr × Obj), ∃ ax vs as, xv = .ref ax ∧ s₁.heap.IsList ax vs.toArray ∧ AreOf K vs as ∧ as.length ≤ sizeLine ∧ Fr h₀ L s₁.heap m ∧ News h₀ L s₁.heap news ∧
      (∀ C a v s₂ m₂ E', s₁.heap.objs.size ≤ C → a ∈ as → K.is a v → s₂.heap.Ns (compEnvC scope cl C env).locals m₂ → m₂ x = some v → (∀ b o, s₁.heap.get? b = some o → s₂.heap.get? b = some o) →
        wpAny (model prog w) A (forIn ifs true fun c r => if r = true then do let ok ← isTrue c (compEnvC scope cl C env) (eval c (compEnvC scope cl C env)); pure (ForInStep.yield ok) else pure (ForInStep.yield r))
          (fun ok s₃ => ok = pz a ∧ Keeps s₂ s₃) E' s₂) ∧
      (∀ C a v s₂ m₂ E', s₁.heap.objs.size ≤ C → a ∈ as → K.is a v → pz a = true → s₂.heap.Ns (compEnvC scope cl C env).locals m₂ → m₂ x = some v → (∀ b o, s₁.heap.get? b = some o → s₂.heap.get? b = some o) →
        wpAny (model prog w) A (eval elt (compEnvC scope cl C env)) (fun y s₃ => Carried y (d a) ∧ Keeps s₂ s₃) E' s₂) ∧
      (∀ D (ys : List Value) h' tk, Fr h₀ L h' m → News h₀ L h' news → h₀.get? D = none → h'.IsList D ys.toArray → NewPlain h' news D ys.toArray → CarriedAll ys ((as.filter pz).map d) → Q (.ref D) { s₁ with heap := h', toks := tk }))) E s)
    (hs : ∀ x, foldedSetIterable iter env x = pure x) :
    wpAny (model prog w) A (eval (.ListComp elt [⟨.Name x px, iter, ifs, 0⟩] scope pos) env) Q E s :=
  ListComp_DCn hh hclos hcell hkind hnames hx h hs
/-- an index into the law's own lists -/
abbrev IK : ItemKind Int := ItemKind.int.within (fun a => 0 ≤ a ∧ a < 14)
/-- the list of strs at a, its sign at i -/
def StrAt (h : Heap) (a : Addr) (i : Int) (c : Str) : Prop := ∃ vs ss, h.IsList a vs.toArray ∧ StrsAre vs ss ∧ 0 ≤ i ∧ i < ss.length ∧ i < 2 ^ 63 ∧ ss.getD i.toNat Str.empty = c
theorem strAt_sign {P : Params} {h : Heap} (X : (hd.heap_39 P).In h) {i : Int} (hi : 0 ≤ i ∧ i < 14) : StrAt h 80 i (SG.getD i.toNat Str.empty) := by
  obtain ⟨vs, hl, hv⟩ := signs_in X
  exact ⟨vs, SG, hl, hv, hi.1, hi.2, by omega, rfl⟩
theorem strAt_way {P : Params} {h : Heap} (X : (hd.heap_39 P).In h) {i : Int} (hi : 0 ≤ i ∧ i < 14) : StrAt h 81 i (Str.ofString (WG.getD i.toNat "")) := by
  obtain ⟨vs, hl, hv⟩ := ways_in X
  exact ⟨vs, _, hl, hv, hi.1, hi.2, by omega, getD_map WG _ (by show _ < 14; omega)⟩
theorem item_strAt {prog : Program} {w : World} {A : Around} {E : Value → Shared → Prop} {s : Shared} {g : Heap} {value slice : Expr} {a : Addr} {k : Int} {u : Tok} {c : Str} {Q : Value → Shared → Prop} (hW : StrAt g a k c) (hk : ∀ b o, g.get? b = some o → s.heap.get? b = some o)
    (h : ∀ t, Q (.str c t) s)
    (hs : subscripted slice false (.ref a) (.int k u) = operate [.ref a, .int k u] (getItem (.ref a) (.int k u)) := by with_unfolding_all rfl) (hg : ∀ r, letTemporaryGo value (.ref a) r = pure () := by intro _; with_unfolding_all rfl) :
    wpAny (model prog w) A (subscriptTail value slice (.ref a) (.int k u)) Q E s := by
  obtain ⟨vs, ss, hl, hi, h0, h1, h2, h3⟩ := hW
  exact item_strsA (hl.at fun o e => hk a o e) hi h0 h1 h2 (fun t => by rw [h3]; exact h t) hs hg
local macro_rules | `(tactic| walk_at "subscriptTail Name Name ref int") => `(tactic| (k_here; (with_reducible rename StrAt _ _ _ _ => hW9); (with_unfolding_all refine' item_strAt hW9 ?k1 ?_ ?ks ?kt; (case k1 => exact Fr.keep (by assumption)); (case ks => with_unfolding_all rfl); (case kt => (intro _; with_unfolding_all rfl)); k_whole); intro t9))
local macro_rules | `(tactic| walk_at "eval ListComp") => `(tactic| (k_here; (with_reducible show wpAny _ _ (eval (Expr.ListComp (Expr.Subscript (Expr.Name (Str.ofString "_law_signs") _) _ _) _ _ _) _) _ _ _); (rename Fr _ _ _ _ => lF'); (refine' comp_pack IK (fun _ => true) (fun i => PyData.str (SG.getD i.toNat Str.empty)) lF' ?hh ?hclos ?hcell ?hkind ?hnames ?hx ?_ ?hs); (case hh => with_unfolding_all rfl); (case hclos => with_unfolding_all rfl); (case hcell => decide); (case hkind => with_unfolding_all rfl); (case hnames => decide); (case hx => with_unfolding_all rfl); (case hs => intro _; with_unfolding_all rfl)))
local macro_rules | `(tactic| walk_at "eval ListComp") => `(tactic| (k_here; (with_reducible show wpAny _ _ (eval (Expr.ListComp (Expr.Subscript (Expr.Name (Str.ofString "_law_ways") _) _ _) _ _ _) _) _ _ _); (rename Fr _ _ _ _ => lF'); (refine' comp_pack IK (fun _ => true) (fun i => PyData.str (Str.ofString (WG.getD i.toNat ""))) lF' ?hh ?hclos ?hcell ?hkind ?hnames ?hx ?_ ?hs); (case hh => with_unfolding_all rfl); (case hclos => with_unfolding_all rfl); (case hcell => decide); (case hkind => with_unfolding_all rfl); (case hnames => decide); (case hx => with_unfolding_all rfl); (case hs => intro _; with_unfolding_all rfl)))

/-- what the made list joins to -/
def JoinIs (zs : List Value) (c : Str) : Prop := ∃ ss, StrsAre zs ss ∧ Str.join (Str.ofString "") ss = c ∧ (ss.map (·.length)).sum ≤ 1000
theorem join_pack {prog : Program} {w : World} {A : Around} {E : Value → Shared → Prop} {s : Shared} {D : Addr} {zs : List Value} {c : Str} {t : Tok} {Q : Value → Shared → Prop} (hj : JoinIs zs c) (hl : s.heap.IsList D zs.toArray)
    (h : ∀ t' k, Q (.str c t') { s with toks := k }) : wpAny (model prog w) A (call (.builtin "str.join") [.str (Str.ofString "") t, .ref D]) Q E s := by
  obtain ⟨ss, hs, hc, hn⟩ := hj
  have e : Txt.join (Str.ofString "") ss = c := by
    rw [← hc]; unfold Txt.join; rw [StrLaws.glued_eq_join]
  refine join_list hl (by simpa using hs) ?_ fun t' k => by rw [e]; exact h t' k
  have : (Str.ofString "").length = 0 := by decide +kernel
  rw [this, Nat.mul_zero]; omega
theorem join_cps (f : Nat → Nat) : ∀ l : List Nat, (Str.join (Str.ofString "") (l.map fun k => (⟨#[f k]⟩ : Str))).cps.toList = l.map f
  | [] => rfl
  | [k] => rfl
  | k :: j :: r => by
    have e : Str.join (Str.ofString "") ((k :: j :: r).map fun k => (⟨#[f k]⟩ : Str)) = (⟨#[f k]⟩ : Str) ++ Str.ofString "" ++ Str.join (Str.ofString "") ((j :: r).map fun k => (⟨#[f k]⟩ : Str)) := rfl
    have ap : ∀ p q : Str, (p ++ q).cps.toList = p.cps.toList ++ q.cps.toList := fun p q => Array.toList_append
    have e0 : (Str.ofString "").cps.toList = [] := by decide +kernel
    rw [e, ap, ap, e0, join_cps f (j :: r)]
    rfl
theorem joinIs_of {ys zs : List Value} {ks : List Nat} (hP : Picks ys ks) (hc : CarriedAll zs (((ks.map fun (k : Nat) => (k : Int)).filter fun _ => true).map fun i => PyData.str (SG.getD i.toNat Str.empty))) :
    ∃ x : Str, JoinIs zs x ∧ x.cps.toList = (ks.map pk).map Prod.fst := by
  have e : (((ks.map fun (k : Nat) => (k : Int)).filter fun _ => true).map fun i => PyData.str (SG.getD i.toNat Str.empty)) = (ks.map fun k => (⟨#[(pk k).1]⟩ : Str)).map PyData.str := by
    rw [List.filter_eq_self.mpr (fun _ _ => rfl), List.map_map, List.map_map]
    refine List.map_congr_left fun k hk => ?_
    show PyData.str (SG.getD ((k : Int)).toNat Str.empty) = _
    rw [Int.toNat_natCast, sg_pk k (hP.2.1 k hk)]
    rfl
  rw [e] at hc
  refine ⟨_, ⟨_, StrsAre.ofCarried hc, rfl, ?_⟩, ?_⟩
  · rw [List.map_map]
    have : ∀ l : List Nat, (l.map ((fun x : Str => x.length) ∘ fun k => (⟨#[(pk k).1]⟩ : Str))).sum = l.length := fun l => by
      induction l with
      | nil => rfl
      | cons k r ih => rw [List.map_cons, List.sum_cons, ih, List.length_cons]; show 1 + r.length = _; omega
    rw [this]
    have := hP.2.2.2
    omega
  · rw [join_cps (fun k => (pk k).1), List.map_map]; rfl
local macro_rules | `(tactic| walk_at "call builtin:str.join") => `(tactic| (k_here; (with_reducible show wpAny _ _ (call (Value.builtin "str.join") [Value.str _ _, Value.ref _]) _ _ _); (with_reducible rename JoinIs _ _ => hj9); (with_unfolding_all refine' join_pack hj9 ?k1 ?_; (case k1 => exact News.isList (by k_asm) (by k_mem)); k_whole); intro t9 k9))

/-- what holds of the frame before each turn -/
def LoopInv (_ : (Str → Option Value) → Prop) : Prop := True
theorem rest_loop {prog : Program} {w : World} {A : Around} {E : Value → Shared → Prop} {s : Shared} {env : Env} {h₀ : Heap} {target : Expr} {body : List Stmt} {Q : Flow → Shared → Prop} {I : Addr} {ty : String} {T : Addr × Obj} {news : List (Addr × Obj)} {m : Str → Option Value}
    {J : (Str → Option Value) → Prop} (_ : LoopInv J) (hI : ∀ p ∈ news, p.1 < I) (hm : T ∈ news) (h0 : J m)
    (h : Pack ((∀ b m, J m → ∀ h tk o1, Fr h₀ env.locals h m → News h₀ env.locals h ((I, o1) :: news) →
        wpAny (model prog w) A (assign target env (.bool b)) (fun _ s₂ => wpAny (model prog w) A (execs body env) (TurnEnd h₀ env.locals [(I, o1)] news J { s with heap := h, toks := tk } Q) E s₂) E { s with heap := h, toks := tk }) ∧
      (∀ m, J m → ∀ h tk, Fr h₀ env.locals h m → News h₀ env.locals h news → Q .next { s with heap := h, toks := tk }))) :
    ItemsRest prog w A E h₀ env target body Q s [(I, ty)] [T] [.val (.bool false), .val (.bool true)] m news := by
  obtain ⟨step, done⟩ := h
  have go : ∀ b r m, J m → (∀ m, J m → ItemsRest prog w A E h₀ env target body Q s [(I, ty)] [T] r m news) → ItemsRest prog w A E h₀ env target body Q s [(I, ty)] [T] (.val (.bool b) :: r) m news := by
    intro b r m hJ ih
    refine ItemsRest.val fun h tk F => ?_
    refine AllObj.cons fun o1 _ => AllObj.nil fun N => ?_
    refine wpAny_mono (step b m hJ h tk o1 F N) (fun _ s₂ h₂ => wpAny_mono h₂ (fun f s₃ h₃ => ?_) fun _ _ e => e) fun _ _ e => e
    have off : ∀ p ∈ news, ∀ q ∈ [(I, o1)], p.1 ≠ q.1 := fun p hp q hq => by
      rw [List.mem_singleton.mp hq]; exact Nat.ne_of_lt (hI p hp)
    cases f with
    | ret v => exact h₃
    | brk => exact h₃
    | next =>
      obtain ⟨h', tk', m', rfl, F', N', hJ'⟩ := h₃
      exact ⟨h', tk', m', news, rfl, F', N', off, ⟨hm, trivial⟩, ih m' hJ'⟩
    | cont =>
      obtain ⟨h', tk', m', rfl, F', N', hJ'⟩ := h₃
      exact ⟨h', tk', m', news, rfl, F', N', off, ⟨hm, trivial⟩, ih m' hJ'⟩
  exact go false _ m h0 fun m1 j1 => go true _ m1 j1 fun m2 j2 => ItemsRest.zero fun h tk F N => done m2 j2 h tk F N
theorem cut_assign {M : Model} {A : Around} {E : Value → Shared → Prop} {s : Shared} {t : Expr} {v : Value} {env : Env} {R : Shared → Prop} (P : Shared → Prop)
    (h1 : wpAny M A (assign t env v) (fun _ s₁ => P s₁) E s) (h2 : ∀ s₁, P s₁ → R s₁) : wpAny M A (assign t env v) (fun _ s₁ => R s₁) E s :=
  wpAny_mono h1 (fun _ s₁ h => h2 s₁ h) fun _ _ e => e
theorem stopper {P : Prop} (h : Pack P) : P := h
local macro_rules | `(tactic| walk_at "ItemsRest") => `(tactic| (refine stopper ?_))
local macro_rules | `(tactic| walk_at "call ref") => `(tactic| (k_here; (with_reducible show wpAny _ _ (call (Value.ref 86) [Value.ref _, Value.bool _]) _ _ _); refine stopper ?_))
local macro_rules | `(tactic| walk_at "call ref") => `(tactic| (k_here; (with_reducible show wpAny _ _ (call (Value.ref 72) _) _ _ _); refine stopper ?_))
abbrev tupFT : Obj := { cls := .type "tuple", data := .seq #[.bool false, .bool true] }
abbrev dueT (code : String) (k : Nat) (tc tn : Tok) : Obj := { cls := .type "tuple", data := .seq [.str (Str.ofString code) tc, .int (k : Nat) tn].toArray }
def wsOf (ks : List Nat) : List String := (ks.map pk).map Prod.snd
theorem way10 : ∀ p ∈ SIGNS, p.2 ∈ WAYS10 := by decide +kernel
theorem wsOf_in {ks : List Nat} : ∀ w ∈ wsOf ks, w ∈ WAYS10 := by
  intro w hw
  obtain ⟨p, hp, rfl⟩ := List.mem_map.mp hw
  obtain ⟨k, _, rfl⟩ := List.mem_map.mp hp
  exact way10 _ (pk_in k)
theorem wsOf_ne {ys : List Value} {ks : List Nat} (hP : Picks ys ks) : wsOf ks ≠ [] := fun e => by
  have h1 : (wsOf ks).length = ks.length := by simp [wsOf]
  have := hP.2.2.1
  rw [e] at h1
  simp at h1
  omega
theorem wsOf_len {ks : List Nat} : (wsOf ks).length = ks.length := by simp [wsOf]
theorem ways_of {ys zs : List Value} {ks : List Nat} (hP : Picks ys ks) (hc : CarriedAll zs (((ks.map fun (k : Nat) => (k : Int)).filter fun _ => true).map fun i => PyData.str (Str.ofString (WG.getD i.toNat "")))) : StrsAre zs ((wsOf ks).map Str.ofString) := by
  have e : (((ks.map fun (k : Nat) => (k : Int)).filter fun _ => true).map fun i => PyData.str (Str.ofString (WG.getD i.toNat ""))) = ((wsOf ks).map Str.ofString).map PyData.str := by
    rw [List.filter_eq_self.mpr (fun _ _ => rfl), List.map_map, wsOf, List.map_map, List.map_map, List.map_map]
    refine List.map_congr_left fun k hk => ?_
    show PyData.str (Str.ofString (WG.getD ((k : Int)).toNat "")) = _
    rw [Int.toNat_natCast, wg_pk k (hP.2.1 k hk)]
    rfl
  rw [e] at hc
  exact StrsAre.ofCarried hc
theorem len_of {x : Str} {ys : List Value} {ks : List Nat} (hP : Picks ys ks) (hx : x.cps.toList = (ks.map pk).map Prod.fst) : x.length ≤ 6 := by
  have h : x.length = x.cps.toList.length := Array.length_toList.symm
  rw [h, hx, List.length_map, List.length_map]
  exact hP.2.2.2
theorem pks_in {ks : List Nat} : ∀ p ∈ ks.map pk, p ∈ SIGNS := by
  intro p hp
  obtain ⟨k, _, rfl⟩ := List.mem_map.mp hp
  exact pk_in k
theorem pks_ne {ys : List Value} {ks : List Nat} (hP : Picks ys ks) : ks.map pk ≠ [] := fun e => by
  have h1 : (ks.map pk).length = ks.length := List.length_map ..
  have := hP.2.2.1
  rw [e] at h1
  simp at h1
  omega
theorem get_exc {w : World} {A : Around} {E : Value → Shared → Prop} {s : Shared} {h₀ : Heap} {L e dx : Addr} {m mA : Str → Option Value} {news : List (Addr × Obj)} {vs : Array Value} {od : Obj} {name : Str} {v : Value} {expr : Bool} {Q : Value → Shared → Prop}
    (F : Fr h₀ L s.heap m) (X₀ : (hd.heap_39 w.params).In h₀) (N : News h₀ L s.heap news) (h1 : (e, (⟨.ref 62, some dx, .fields vs, #[]⟩ : Obj)) ∈ news) (h2 : (dx, od) ∈ news) (D : DictIs od mA) (hA : mA name = some v) (hv : handedIn v = true)
    (ha : findIn (hd.heap_39 w.params) (.ref 62) name = some none) (h : Q v { s with toks := s.toks + 1 }) :
    wpAny (model PySem.Challenge.rw_fc0083_01.row.prog w) A (getAttr (.ref e) name expr) Q E s := by
  obtain ⟨hp, g, d, tk, os⟩ := s
  exact exc_get (Frag.In.keeps X₀ F.keep) ha (⟨(N _ h1).1, rfl, rfl, (N _ h2).1⟩ : PySem.W.InstAt hp e _ 62 (some od)) (D.look hA) hv h
local macro_rules | `(tactic| walk_at "getAttr ref") => `(tactic| (k_here; (with_reducible rename DictIs _ _ => hD9); (with_unfolding_all refine' get_exc ?k1 ?k2 ?k3 ?k4 ?k5 hD9 ?k6 ?k7 ?kA ?_; (case k1 => k_asm); (case k2 => k_asm); (case k3 => k_asm); (case k4 => k_mem); (case k5 => k_mem); (case k6 => exact rfl); (case k7 => exact rfl); (case kA => k_is); k_whole); dsimp only))
local macro_rules | `(tactic| walk_at "compareOp NotEq ref ref") => `(tactic| (k_here; (with_reducible show wpAny _ _ (compareOp CmpOp.NotEq (Value.ref _) (Value.ref _)) _ _ _); (with_reducible rename PyData.strOk _ = true => hc9); (with_unfolding_all refine' ne_pair hc9 ?k1 ?k2 ?k3 ?k4 ?k5 ?k6 ?k7 ?_; (case k1 => exact News.get (by k_asm) (by k_mem)); (case k2 => exact News.get (by k_asm) (by k_mem)); (case k3 => exact rfl); (case k4 => exact rfl); (case k5 => exact rfl); (case k6 => exact rfl); (case k7 => ke_room); k_whole)))
theorem ne_strB {prog : Program} {w : World} {A : Around} {E : Value → Shared → Prop} {s : Shared} {x : Str} {t u : Tok} {Q : Value → Shared → Prop} (h : Q (.bool false) s) : wpAny (model prog w) A (compareOp .NotEq (.str x t) (.str x u)) Q E s :=
  PyProof.Rows.ne_str (by rw [show (x != x) = false from by simp [bne]]; exact h)
local macro_rules | `(tactic| walk_at "compareOp NotEq str str") => `(tactic| (k_here; (with_reducible show wpAny _ _ (compareOp CmpOp.NotEq (Value.str _ _) (Value.str _ _)) _ _ _); (with_reducible refine ne_strB ?_)))
theorem ne_intB {prog : Program} {w : World} {A : Around} {E : Value → Shared → Prop} {s : Shared} {x : Int} {t u : Tok} {Q : Value → Shared → Prop} (h : Q (.bool false) s) : wpAny (model prog w) A (compareOp .NotEq (.int x t) (.int x u)) Q E s :=
  PyProof.Rows.ne_int (by rw [show (x != x) = false from by simp [bne]]; exact h)
local macro_rules | `(tactic| walk_at "compareOp NotEq int int") => `(tactic| (k_here; (with_reducible show wpAny _ _ (compareOp CmpOp.NotEq (Value.int _ _) (Value.int _ _)) _ _ _); (with_reducible refine ne_intB ?_)))
local macro_rules | `(tactic| walk_at "subscriptTail Name BinOp str int") => `(tactic| (k_here; (with_reducible show wpAny _ _ (subscriptTail _ _ (Value.str _ _) (Value.int _ _)) _ _ _); (with_reducible rename ItemIs _ _ _ => hi9); (with_unfolding_all refine' item_at hi9 ?_ ?ks ?kt; (case ks => with_unfolding_all rfl); (case kt => (intro _; with_unfolding_all rfl)); k_whole)))
theorem item_first {prog : Program} {w : World} {A : Around} {E : Value → Shared → Prop} {s : Shared} {value slice : Expr} {a : Addr} {v : Value} {yr : List Value} {u : Tok} {Q : Value → Shared → Prop} (hl : s.heap.IsList a (v :: yr).toArray)
    (h : Q v s)
    (hs : subscripted slice false (.ref a) (.int 0 u) = operate [.ref a, .int 0 u] (getItem (.ref a) (.int 0 u)) := by with_unfolding_all rfl) (hg : ∀ r, letTemporaryGo value (.ref a) r = pure () := by intro _; with_unfolding_all rfl) :
    wpAny (model prog w) A (subscriptTail value slice (.ref a) (.int 0 u)) Q E s :=
  item_listL hl (Int.le_refl _) (by decide) rfl h hs hg
/-- the first pick -/
def FirstAt (a : Addr) (yr : List Value) (k0 : Nat) (t0 : Tok) : Prop := True
local macro_rules | `(tactic| walk_at "subscriptTail Name Constant ref int") => `(tactic| (k_here; (with_reducible show wpAny _ _ (subscriptTail _ _ (Value.ref _) (Value.int 0 _)) _ _ _); (with_reducible rename FirstAt _ _ _ _ => hF9); (with_unfolding_all refine' item_first ?k1 ?_ ?ks ?kt; (case k1 => exact News.isList (by k_asm) (by k_mem)); (case ks => with_unfolding_all rfl); (case kt => (intro _; with_unfolding_all rfl)); k_whole)))
theorem in_tupI {prog : Program} {w : World} {A : Around} {E : Value → Shared → Prop} {s : Shared} {t : Addr} {items : Array Value} {ns : List Int} {x : Int} {u : Tok} {Q : Value → Shared → Prop} (b : Bool) (ht : IsTup s.heap t items) (hi : IntsAre items.toList ns) (hb : ns.any (· == x) = b)
    (h : Q (.bool b) s) : wpAny (model prog w) A (compareOp .In (.int x u) (.ref t)) Q E s := by
  subst hb; exact in_tuple_ints ht hi h
local macro_rules | `(tactic| walk_at "compareOp In int ref") => `(tactic| (k_here; (with_reducible show wpAny _ _ (compareOp CmpOp.In (Value.int _ _) (Value.ref _)) _ _ _); (with_unfolding_all refine' in_tupI _ ?k1 ?k2 ?k3 ?_; (case k1 => exact News.isTup (by k_asm) (by news_mem)); (case k2 => exact IntsAre.cons 0 _ (IntsAre.cons 1 _ (IntsAre.cons 10 _ IntsAre.nil))); (case k3 => assumption); k_whole)))
local macro_rules | `(tactic| walk_at "compareOp Eq ref ref") => `(tactic| (k_here; (with_reducible show wpAny _ _ (compareOp CmpOp.Eq (Value.ref _) (Value.ref _)) _ _ _); (with_unfolding_all refine' eq_nilL ?k1 ?k2 ?k3 ?k4 ?_; (case k4 => assumption); (case k1 => exact News.isList (by k_asm) (by k_mem)); (case k2 => exact News.isList (by k_asm) (by k_mem)); (case k3 => ktr_units); k_whole)))
local macro_rules | `(tactic| walk_at "newTuple") => `(tactic| (k_here; (rename InElt _ _ => kE9); (with_unfolding_all refine' newTup_elt kE9 ?_ ?hz); (case hz => exact Nat.le_of_ble_eq_true rfl); clear kE9; intro D9 h9 kE8 hT9; dsimp only))
local macro_rules | `(tactic| walk_at "compareOp In str ref") => `(tactic| (k_here; (with_reducible show wpAny _ _ (compareOp CmpOp.In (Value.str _ _) (Value.ref _)) _ _ _); (rename InElt _ _ => kE9); (with_unfolding_all refine' in_tuple_strs ?k1 ?k2 ?_; (case k1 => assumption); (case k2 => kde_strs); k_whole)))
local macro_rules | `(tactic| walk_at "eval ListComp") => `(tactic| (k_here; (with_reducible show wpAny _ _ (eval (Expr.ListComp (Expr.Name (Str.ofString "k") _) _ _ _) _) _ _ _); (rename Fr _ _ _ _ => lF'); (refine' comp_pack IK (fun i => rtlS (Str.ofString (WG.getD i.toNat ""))) (fun i => PyData.int i) lF' ?hh ?hclos ?hcell ?hkind ?hnames ?hx ?_ ?hs); (case hh => with_unfolding_all rfl); (case hclos => with_unfolding_all rfl); (case hcell => decide); (case hkind => with_unfolding_all rfl); (case hnames => decide); (case hx => with_unfolding_all rfl); (case hs => intro _; with_unfolding_all rfl)))
theorem rtl_emptyK {ys zs : List Value} {ks : List Nat} (hP : Picks ys ks) (hc : CarriedAll zs (((ks.map fun (k : Nat) => (k : Int)).filter fun i => rtlS (Str.ofString (WG.getD i.toNat ""))).map fun i => PyData.int i)) : zs.isEmpty = !((wsOf ks).any isRtl) := by
  have h0 : ∀ w ∈ WAYS10, rtlS (Str.ofString w) = isRtl w := by decide +kernel
  have h1 : (((ks.map fun (k : Nat) => (k : Int)).filter fun i => rtlS (Str.ofString (WG.getD i.toNat ""))).map fun i => PyData.int i).isEmpty = !((wsOf ks).any isRtl) := by
    have hk := hP.2.1
    clear hc hP
    induction ks with
    | nil => rfl
    | cons k r ih =>
      have e : rtlS (Str.ofString (WG.getD ((k : Int)).toNat "")) = isRtl (pk k).2 := by
        rw [Int.toNat_natCast, wg_pk k (hk k (by simp))]
        exact h0 _ (way10 _ (pk_in k))
      have ih' := ih fun j hj => hk j (by simp [hj])
      have ew : wsOf (k :: r) = (pk k).2 :: wsOf r := rfl
      rw [ew, List.any_cons, List.map_cons, List.filter_cons, e]
      cases hq : isRtl (pk k).2
      · simpa using ih'
      · rfl
  rw [← h1]
  generalize (((ks.map fun (k : Nat) => (k : Int)).filter fun i => rtlS (Str.ofString (WG.getD i.toNat ""))).map fun i => PyData.int i) = l at hc
  cases hc <;> rfl
theorem app_a {x : Str} {ks : List Nat} (hx : x.cps.toList = (ks.map pk).map Prod.fst) : (x ++ Str.ofString "a").cps.toList = (ks.map pk ++ [(97, "L")]).map Prod.fst := by
  have ap : ∀ p q : Str, (p ++ q).cps.toList = p.cps.toList ++ q.cps.toList := fun p q => Array.toList_append
  have e0 : (Str.ofString "a").cps.toList = [97] := by decide +kernel
  rw [ap, hx, e0, List.map_append]
  rfl
theorem chk_a {ks : List Nat} (h : (wsOf ks).any isRtl = false) : chk ((ks.map pk ++ [(97, "L")]).map (fun x : Nat × String => x.2)) false = none := by
  have e : ((ks.map pk ++ [(97, "L")]).map (fun x : Nat × String => x.2)).any isRtl = false := by
    rw [List.map_append, List.any_append]
    have h' : (List.map (fun x : Nat × String => x.2) (ks.map pk)).any isRtl = false := h
    rw [h']
    rfl
  unfold chk
  dsimp only
  rw [e]
  rfl
theorem len_a {x : Str} {ys : List Value} {ks : List Nat} (hP : Picks ys ks) (hx : x.cps.toList = (ks.map pk).map Prod.fst) : (x ++ Str.ofString "a").length ≤ 7 := by
  have h : (x ++ Str.ofString "a").length = (x ++ Str.ofString "a").cps.toList.length := Array.length_toList.symm
  rw [h, app_a hx, List.length_map, List.length_append, List.length_map]
  have := hP.2.2.2
  simp only [List.length_singleton]
  omega
theorem add_a {prog : Program} {w : World} {A : Around} {E : Value → Shared → Prop} {s : Shared} {x : Str} {t u : Tok} {Q : Value → Shared → Prop} (hx : x.length ≤ 6) (h : ∀ t' tk, Q (.str (x ++ Str.ofString "a") t') { s with toks := tk }) :
    wpAny (model prog w) A (binaryOp .Add (.str x t) (.str (Str.ofString "a") u)) Q E s :=
  PyProof.Rows.add_str h (by have e : (Str.ofString "a").length = 1 := by decide +kernel
                             rw [e, sizeLine_eq]; omega)
local macro_rules | `(tactic| walk_at "binaryOp Add str str") => `(tactic| (k_here; (with_reducible show wpAny _ _ (binaryOp Operator.Add (Value.str _ _) (Value.str _ _)) _ _ _); (with_reducible refine' add_a ?k1 ?_; (case k1 => assumption)); intro t9 k9; dsimp only))
set_option maxRecDepth 100000 in
set_option maxHeartbeats 80000000 in
theorem law_walk : PySem.Challenge.rw_fc0083_01.Holds := hd (by
  k_fill
  intro w s₀ s₁ mg mb G Y fa o pm cd doc dV kV ho hd' hcd hD hmg hg args vals as hpre hlay hrd hwl hlo
  have KX := kIn_of Y
  k_behind G ho hd' hcd hD hmg hpre hlay hrd hwl hlo cd
  (all_goals try k_fold)
  with_reducible rename Top _ _ _ _ _ _ => T
  with_reducible rename Below _ _ _ _ => K0
  (with_unfolding_all refine cut_stmt (fun s' => ∃ h2 tk2 m2 D ys ks, s' = { s₁ with heap := h2, toks := tk2 } ∧ Fr s₁.heap s₁.heap.objs.size h2 m2 ∧ m2 (Str.ofString "picks") = some (.ref D) ∧ m2 (Str.ofString "code") = none ∧ News s₁.heap s₁.heap.objs.size h2 [(D, lst ys)] ∧ Picks ys ks) ?_ ?_)
  · k_steps
    all_goals with_reducible rename IntsAre _ (List.map _ (rangeKs _ _)) => hI9
    all_goals obtain ⟨ks, hP⟩ := picks_of hI9 (by intro k9; first | exact fm14 _ | (split <;> exact fm14 _)) (by omega) (by omega)
    all_goals exact ⟨_, _, _, _, _, ks, rfl, by k_asm, rfl, by first | rfl | with_unfolding_all rfl, by refine' cb_drop ?n9 ?s9; (case n9 => k_asm); (case s9 => intro p9 hp9; rcases List.mem_cons.mp hp9 with rfl | hp9; exact List.Mem.head _; exact nomatch hp9), hP⟩
  rintro s' ⟨h2, tk2, m2, D, ys, ks, rfl, F2, b1, z1, N2, hP⟩
  (with_unfolding_all refine cut_stmt (fun s' => ∃ h2 tk2 m2 x t, s' = { s₁ with heap := h2, toks := tk2 } ∧ Fr s₁.heap s₁.heap.objs.size h2 m2 ∧ m2 (Str.ofString "picks") = some (.ref D) ∧ m2 (Str.ofString "label") = some (.str x t) ∧ m2 (Str.ofString "code") = none ∧ News s₁.heap s₁.heap.objs.size h2 [(D, lst ys)] ∧ x.cps.toList = (ks.map pk).map Prod.fst) ?_ ?_)
  · rw [map1 b1] at F2
    k_steps
    rename Fr _ _ _ _ => lF
    rename News _ _ _ _ => lN
    refine ⟨_, _, ys, ks.map (fun (k : Nat) => (k : Int)), rfl, News.isList lN (by k_mem), ?_, ?_, lF, lN, ?_, ?_, ?_⟩
    · exact AreOf.withinP (IntsAre.areOf hP.1) fun a ha => by obtain ⟨k, hk, rfl⟩ := List.mem_map.mp ha; have := hP.2.1 k hk; omega
    · rw [List.length_map, sizeLine_eq]; have := hP.2.2.2; omega
    · intro C a v s₂ m₂ E' hC ha hav hNs hx hk
      (with_reducible refine wpAny_leafK ?_)
      k_steps
    · intro C a v s₂ m₂ E' hC ha hav hpz hNs hx hk
      obtain ⟨⟨t, rfl⟩, hin⟩ := hav
      have Fc := frInComp hNs hk hC
      have hS := strAt_sign (Frag.In.keeps KX (Fr.keep lF)) hin
      have Xc := Frag.In.keeps KX (Fr.keep lF)
      have Tc := Top.keeps T (Fr.keep lF)
      (with_reducible refine wpAny_leafK ?_)
      k_steps
    · intro D2 zs h2 tk2 F2 N2' hD2 hl2 hp2 hc2
      obtain ⟨n2, N2⟩ := NewPlain.ledger hp2 F2 N2' hD2
      clear N2'
      obtain ⟨x, hj, hx⟩ := joinIs_of hP hc2
      k_steps
      exact ⟨_, _, _, x, _, rfl, by k_asm, rfl, rfl, by exact z1, by refine' cb_drop ?n9 ?s9; (case n9 => k_asm); (case s9 => intro p9 hp9; rcases List.mem_cons.mp hp9 with rfl | hp9; (focus (repeat (first | exact List.Mem.head _ | refine List.Mem.tail _ ?_))); exact nomatch hp9), hx⟩
  rintro s' ⟨h3, tk3, m3, x, t, rfl, F3, b2, b3, z2, N3, hx⟩
  clear F2 N2
  (with_unfolding_all refine cut_stmt (fun s' => ∃ h2 tk2 m2, s' = { s₁ with heap := h2, toks := tk2 } ∧ Fr s₁.heap s₁.heap.objs.size h2 m2 ∧ m2 (Str.ofString "picks") = some (.ref D) ∧ m2 (Str.ofString "label") = some (.str x t) ∧ m2 (Str.ofString "code") = none ∧ News s₁.heap s₁.heap.objs.size h2 [(D, lst ys)]) ?_ ?_)
  · rw [map2 b2 b3] at F3
    have hJ9 : LoopInv (fun m => m (Str.ofString "picks") = some (.ref D) ∧ m (Str.ofString "label") = some (.str x t) ∧ m (Str.ofString "code") = none) := trivial
    k_steps
    unfold Pack
    with_reducible rename _ ∧ D < _ => l9
    with_unfolding_all refine' rest_loop hJ9 ?k1 ?k2 ?k3 ?_
    (case k1 =>
      intro p9 hp9
      rcases List.mem_cons.mp hp9 with rfl | hp9
      · exact l9.1
      rcases List.mem_cons.mp hp9 with rfl | hp9
      · exact l9.2
      exact nomatch hp9)
    (case k2 => k_mem)
    (case k3 => exact ⟨rfl, rfl, z2⟩)
    refine ⟨?_, ?_⟩
    rename_i D9 h9 N9 l9' i9
    rotate_left 1
    · rintro m4 ⟨a1, a2, z4⟩ h4 tk4 F4 N4
      exact ⟨_, _, _, rfl, F4, a1, a2, z4, by refine' cb_drop ?n9 ?s9; (case n9 => k_asm); (case s9 => intro p9 hp9; rcases List.mem_cons.mp hp9 with rfl | hp9; (focus (repeat (first | exact List.Mem.head _ | refine List.Mem.tail _ ?_))); exact nomatch hp9)⟩
    · rintro b m4 ⟨a1, a2, z4⟩ h4 tk4 o4 F4 N4
      rw [map2 a1 a2] at F4
      change Fr s₁.heap s₁.heap.objs.size h4 _ at F4
      change News s₁.heap s₁.heap.objs.size h4 [(i9, o4), (D9, tupFT), (D, lst ys)] at N4
      refine cut_assign (fun s' => Pack (∃ h5 tk5 m5, s' = { s₁ with heap := h5, toks := tk5 } ∧ Fr s₁.heap s₁.heap.objs.size h5 m5 ∧ m5 (Str.ofString "asked") = some (.bool b) ∧ m5 (Str.ofString "picks") = some (.ref D) ∧ m5 (Str.ofString "label") = some (.str x t) ∧ m5 (Str.ofString "code") = none ∧ News s₁.heap s₁.heap.objs.size h5 [(i9, o4), (D9, tupFT), (D, lst ys)])) ?_ ?_
      · k_steps
        unfold Pack
        exact ⟨_, _, _, rfl, by k_asm, rfl, rfl, rfl, by exact z4, by k_asm⟩
      rintro s' ⟨h5, tk5, m5, rfl, F5, c1, c2, c3, z5, N5⟩
      rw [map3 c1 c2 c3] at F5
      (with_unfolding_all refine cut_stmt (fun s' => ∃ h6 tk6 m6 dv nw, s' = { s₁ with heap := h6, toks := tk6 } ∧ Fr s₁.heap s₁.heap.objs.size h6 m6 ∧ m6 (Str.ofString "asked") = some (.bool b) ∧ m6 (Str.ofString "picks") = some (.ref D) ∧ m6 (Str.ofString "label") = some (.str x t) ∧ m6 (Str.ofString "due") = some dv ∧ m6 (Str.ofString "code") = none ∧ News s₁.heap s₁.heap.objs.size h6 nw ∧
        ((ruleS (wsOf ks) b = none ∧ dv = .none ∧ nw = [(i9, o4), (D9, tupFT), (D, lst ys)]) ∨ ∃ code k T9 tc tn, ruleS (wsOf ks) b = some (code, k) ∧ dv = .ref T9 ∧ nw = [(T9, dueT code k tc tn), (i9, o4), (D9, tupFT), (D, lst ys)])) ?_ ?_)
      · k_steps
        rename Fr _ _ _ _ => lF
        rename News _ _ _ _ => lN
        refine ⟨_, _, ys, ks.map (fun (k : Nat) => (k : Int)), rfl, News.isList lN (by k_mem), ?_, ?_, lF, lN, ?_, ?_, ?_⟩
        · exact AreOf.withinP (IntsAre.areOf hP.1) fun a ha => by obtain ⟨k, hk, rfl⟩ := List.mem_map.mp ha; have := hP.2.1 k hk; omega
        · rw [List.length_map, sizeLine_eq]; have := hP.2.2.2; omega
        · intro C a v s₂ m₂ E' hC ha hav hNs hx hk
          (with_reducible refine wpAny_leafK ?_)
          k_steps
        · intro C a v s₂ m₂ E' hC ha hav hpz hNs hx hk
          obtain ⟨⟨t, rfl⟩, hin⟩ := hav
          have Fc := frInComp hNs hk hC
          have hS := strAt_way (Frag.In.keeps KX (Fr.keep lF)) hin
          have Xc := Frag.In.keeps KX (Fr.keep lF)
          have Tc := Top.keeps T (Fr.keep lF)
          (with_reducible refine wpAny_leafK ?_)
          k_steps
        · intro D2 zs h7 tk7 F7 N7' hD2 hl7 hp7 hc7
          obtain ⟨n7, N7⟩ := NewPlain.ledger hp7 F7 N7' hD2
          clear N7' lF lN
          have hys := ways_of hP hc7
          k_steps
          unfold Pack
          with_unfolding_all refine' rule_tells _ _ _ _ _ _ _ _ _ _ _ _ _ _ _ _ _ _ _ _ _ _ _ hys wsOf_in ?k2 ?k3 ?k4 ?k5 ?k6 ?k7 ?k8 ?k9 ?kA ?kB ?kC ?retN ?retS
          (case k2 => rw [wsOf_len]; have := hP.2.2.2; omega)
          (case k3 => exact wsOf_ne hP)
          (case k6 => k_asm)
          (case k8 => k_asm)
          (case k4 => k_mem)
          (case k5 => k_asm)
          (case k7 => k_asm)
          (case k9 => k_asm)
          (case kA => exact rfl)
          (case kB => with_unfolding_all decide)
          (case kC => with_unfolding_all decide)
          (case retN =>
            intro hr h8 tk8 F8 N8
            k_steps
            exact ⟨_, _, _, .none, _, rfl, by k_asm, rfl, rfl, rfl, rfl, by exact z5, by first | k_asm | (refine' cb_drop ?n9 ?s9; (case n9 => assumption); (case s9 => intro p9 hp9; repeat (first | exact hp9 | refine List.Mem.tail _ ?_))), .inl ⟨hr, rfl, rfl⟩⟩)
          (case retS =>
            intro code k hr T9 h8 tk8 tc tn F8 N8 hT9
            k_steps
            exact ⟨_, _, _, .ref T9, _, rfl, by k_asm, rfl, rfl, rfl, rfl, by exact z5, by refine' cb_drop ?n9 ?s9; (case n9 => k_asm); (case s9 => intro p9 hp9; rcases List.mem_cons.mp hp9 with rfl | hp9; exact List.Mem.head _; repeat (first | exact hp9 | refine List.Mem.tail _ ?_)), .inr ⟨code, k, T9, tc, tn, hr, rfl, rfl⟩⟩)
      rintro s' ⟨h6, tk6, m6, dv, nw, rfl, F6, d1, d2, d3, d4, z6, N6, hdue⟩
      rw [map4 d1 d2 d3 d4] at F6
      have hck : chk (wsOf ks) b = ruleS (wsOf ks) b := chk_rule b (wsOf_ne hP)
      rcases hdue with ⟨hr, rfl, rfl⟩ | ⟨code, k, T9, tc, tn, hr, rfl, rfl⟩
      · k_steps
        refine wpAny_Try_except ?_
        k_steps
        unfold Pack
        with_unfolding_all refine' check_tells _ _ _ _ _ _ _ _ _ _ _ _ _ _ _ _ _ _ _ _ b ?k1 (ks.map pk) pks_in hx ?k2 ?k3 ?k4 ?k5 ?k6 ?k7 ?k8 ?k9 (pks_ne hP) ?kA _ (.inl rfl) ?ret ?exc
        (case k1 => have := len_of hP hx; omega)
        (case k3 => k_asm)
        (case k2 => k_asm)
        (case k5 => k_asm)
        (case k4 => k_asm)
        (case k6 => k_asm)
        (case k7 => exact rfl)
        (case k8 => with_unfolding_all decide)
        (case k9 => with_unfolding_all decide)
        (case kA => rw [List.length_map]; have := hP.2.2.2; omega)
        (case ret =>
          intro hc h8 tk8 F8 N8
          k_steps
          refine' turnEnd_next ?tF ?tN ?tJ
          (case tF =>
            show Fr s₁.heap s₁.heap.objs.size _ _
            k_asm)
          (case tN =>
            show News s₁.heap s₁.heap.objs.size _ _
            k_asm)
          (case tJ => exact ⟨rfl, rfl, z6⟩))
        (case exc => intro code pos cp hc; exact absurd (hck.symm.trans hc) (by rw [hr]; intro z; cases z))
      · k_steps
        refine wpAny_Try_except ?_
        k_steps
        unfold Pack
        with_unfolding_all refine' check_tells _ _ _ _ _ _ _ _ _ _ _ _ _ _ _ _ _ _ _ _ b ?k1 (ks.map pk) pks_in hx ?k2 ?k3 ?k4 ?k5 ?k6 ?k7 ?k8 ?k9 (pks_ne hP) ?kA _ (.inl rfl) ?ret ?exc
        (case k1 => have := len_of hP hx; omega)
        (case k3 => k_asm)
        (case k2 => k_asm)
        (case k5 => k_asm)
        (case k4 => k_asm)
        (case k6 => k_asm)
        (case k7 => exact rfl)
        (case k8 => with_unfolding_all decide)
        (case k9 => with_unfolding_all decide)
        (case kA => rw [List.length_map]; have := hP.2.2.2; omega)
        (case ret => intro hc; exact absurd (hck.symm.trans hc) (by rw [hr]; intro z; cases z))
        (case exc =>
          intro code' pos cp hc hp1 hcp g9 e9 h8 tk8 tc9 tx9 tn9 tp9 F8 U8 R8
          obtain ⟨rfl, rfl⟩ : code' = code ∧ pos = k := by
            have := hc.symm.trans (hck.trans hr)
            injection this with this
            injection this with h1 h2
            exact ⟨h1, h2⟩
          have hok := code_ok _ (ruleS_code hr)
          have hIt : ItemIs x ((pos : Int) - 1) cp := by
            have h := itemIs_of (l := (ks.map pk).map Prod.fst) hx (by rw [List.length_map, List.length_map]; have := hP.2.2.2; omega) (pos - 1) hcp
            rwa [show ((pos - 1 : Nat) : Int) = (pos : Int) - 1 from by omega] at h
          refine' caught_D (x0 := Str.ofString "code") ?c1 ?c2 ?c3 F8 U8 R8 KX ?c4 ?c5 ?c6 ?c7 ?c8 ?c9
          (case c1 => exact rfl)
          (case c2 => exact rfl)
          (case c3 => exact rfl)
          (case c4 => exact z6)
          (case c5 => exact rfl)
          (case c6 =>
            intro A9 E9 Q9 s9 F9 hQ9
            clear F8 U8 R8
            k_steps
            exact hQ9)
          (case c7 => exact rfl)
          (case c8 => exact rfl)
          (case c9 =>
            intro h9 tk9 dx vs9 od hDict F9 N9
            clear F8 U8 R8
            k_steps
            rename Fr _ _ _ _ => lF
            rename News _ _ _ _ => lN
            refine wpAny_nameGoes_keeps rfl lF.ns rfl fun h7 v7 hn7 hs7 => ?_
            have F7 := lF.set hn7 hs7
            have N7 := lN.set hs7
            clear lF lN hn7 hs7
            try dsimp only
            k_steps
            refine' turnEnd_next ?tF ?tN ?tJ
            (case tF =>
              show Fr s₁.heap s₁.heap.objs.size _ _
              k_asm)
            (case tN =>
              show News s₁.heap s₁.heap.objs.size _ [(i9, o4), (D9, tupFT), (D, lst ys)]
              refine' cb_drop ?n9 ?s9; (case n9 => k_asm); (case s9 => intro p9 hp9; repeat (first | exact hp9 | refine List.Mem.tail _ ?_)))
            (case tJ => exact ⟨rfl, rfl, z6⟩)))
  rintro s' ⟨h4, tk4, m4, rfl, F4, b4, b5, z4, N4⟩
  clear F3 N3 b1 b2 b3 z1 z2
  cases ks with
  | nil => exact absurd hP.2.2.1 (by decide)
  | cons k0 kr =>
  obtain ⟨t0, yr, rfl⟩ : ∃ t0 yr, ys = .int (k0 : Int) t0 :: yr := by
    have h := hP.1
    cases h with
    | cons n t h => exact ⟨_, _, rfl⟩
  rw [map2 b4 b5] at F4
  · have hF9 : FirstAt D yr k0 t0 := trivial
    cases hb : [(0 : Int), 1, 10].any (· == (k0 : Int))
    · k_steps
      unfold Pack
      with_unfolding_all refine' check_tells _ _ _ _ _ _ _ _ _ _ _ _ _ _ _ _ _ _ _ _ false ?k1 [(97, "L")] (by decide) (by decide +kernel) ?k2 ?k3 ?k4 ?k5 ?k6 ?k7 ?k8 ?k9 (by simp) ?kA _ (.inr ⟨rfl, rfl⟩) ?ret ?exc
      (case k1 => decide +kernel)
      (case k3 => k_asm)
      (case k2 => k_asm)
      (case k5 => k_asm)
      (case k4 => k_asm)
      (case k6 => k_asm)
      (case k7 => exact rfl)
      (case k8 => with_unfolding_all decide)
      (case k9 => with_unfolding_all decide)
      (case kA => decide)
      (case exc => intro code pos cp hc; exact absurd ((show chk ([(97, "L")].map (·.2)) false = none by decide).symm.trans hc) (by intro z; cases z))
      (case ret =>
        intro hc h8 tk8 F8 N8
        k_steps
        unfold Pack
        with_unfolding_all refine' check_tells _ _ _ _ _ _ _ _ _ _ _ _ _ _ _ _ _ _ _ _ false ?k1 [(55, "EN")] (by decide) (by decide +kernel) ?k2 ?k3 ?k4 ?k5 ?k6 ?k7 ?k8 ?k9 (by simp) ?kA _ (.inr ⟨rfl, rfl⟩) ?ret ?exc
        (case k1 => decide +kernel)
        (case k3 => k_asm)
        (case k2 => k_asm)
        (case k5 => k_asm)
        (case k4 => k_asm)
        (case k6 => k_asm)
        (case k7 => exact rfl)
        (case k8 => with_unfolding_all decide)
        (case k9 => with_unfolding_all decide)
        (case kA => decide)
        (case exc => intro code pos cp hc; exact absurd ((show chk ([(55, "EN")].map (·.2)) false = none by decide).symm.trans hc) (by intro z; cases z))
        (case ret =>
          intro hc h8 tk8 F8 N8
          k_steps))
    · k_steps
      rename Fr _ _ _ _ => lF
      rename News _ _ _ _ => lN
      refine ⟨_, _, .int (k0 : Int) t0 :: yr, (k0 :: kr).map (fun (k : Nat) => (k : Int)), rfl, News.isList lN (by k_mem), ?_, ?_, lF, lN, ?_, ?_, ?_⟩
      · exact AreOf.withinP (IntsAre.areOf hP.1) fun a ha => by obtain ⟨k, hk, rfl⟩ := List.mem_map.mp ha; have := hP.2.1 k hk; omega
      · rw [List.length_map, sizeLine_eq]; have := hP.2.2.2; omega
      · intro C a v s₂ m₂ E' hC ha hav hNs hx9 hk
        obtain ⟨⟨t, rfl⟩, hin⟩ := hav
        have Fc := frInComp hNs hk hC
        have hS := strAt_way (Frag.In.keeps KX (Fr.keep lF)) hin
        have Xc := Frag.In.keeps KX (Fr.keep lF)
        have Tc := Top.keeps T (Fr.keep lF)
        (with_reducible refine wpAny_leafK ?_)
        k_steps
      · intro C a v s₂ m₂ E' hC ha hav hpz hNs hx9 hk
        obtain ⟨⟨t, rfl⟩, hin⟩ := hav
        have Fc := frInComp hNs hk hC
        (with_reducible refine wpAny_leafK ?_)
        k_steps
      · intro D2 zs h7 tk7 F7 N7' hD2 hl7 hp7 hc7
        obtain ⟨n7, N7⟩ := NewPlain.ledger hp7 F7 N7' hD2
        clear N7' lF lN
        have hz := rtl_emptyK hP hc7
        have hxl := len_of hP hx
        cases hany : (wsOf (k0 :: kr)).any isRtl <;> rw [hany] at hz
        all_goals first | replace hz : zs.isEmpty = true := hz | replace hz : zs.isEmpty = false := hz
        · k_steps
          unfold Pack
          with_unfolding_all refine' check_tells _ _ _ _ _ _ _ _ _ _ _ _ _ _ _ _ _ _ _ _ false ?k1 ((k0 :: kr).map pk ++ [(97, "L")]) (by intro p hp; rcases List.mem_append.mp hp with h | h; exact pks_in p h; rw [List.mem_singleton.mp h]; decide) (app_a hx) ?k2 ?k3 ?k4 ?k5 ?k6 ?k7 ?k8 ?k9 (by simp) ?kA _ (.inr ⟨rfl, rfl⟩) ?ret ?exc
          (case k1 => exact len_a hP hx)
          (case k3 => k_asm)
          (case k2 => k_asm)
          (case k5 => k_asm)
          (case k4 => k_asm)
          (case k6 => k_asm)
          (case k7 => exact rfl)
          (case k8 => with_unfolding_all decide)
          (case k9 => with_unfolding_all decide)
          (case kA => rw [List.length_append, List.length_map]; have := hP.2.2.2; simp only [List.length_singleton]; omega)
          (case exc => intro code pos cp hc; exact absurd ((chk_a hany).symm.trans hc) (by intro z; cases z))
          (case ret =>
            intro hc h8 tk8 F8 N8
            k_steps
            unfold Pack
            with_unfolding_all refine' check_tells _ _ _ _ _ _ _ _ _ _ _ _ _ _ _ _ _ _ _ _ false ?k1 [(55, "EN")] (by decide) (by decide +kernel) ?k2 ?k3 ?k4 ?k5 ?k6 ?k7 ?k8 ?k9 (by simp) ?kA _ (.inr ⟨rfl, rfl⟩) ?ret ?exc
            (case k1 => decide +kernel)
            (case k3 => k_asm)
            (case k2 => k_asm)
            (case k5 => k_asm)
            (case k4 => k_asm)
            (case k6 => k_asm)
            (case k7 => exact rfl)
            (case k8 => with_unfolding_all decide)
            (case k9 => with_unfolding_all decide)
            (case kA => decide)
            (case exc => intro code pos cp hc; exact absurd ((show chk ([(55, "EN")].map (·.2)) false = none by decide).symm.trans hc) (by intro z; cases z))
            (case ret =>
              intro hc h8 tk8 F8 N8
              k_steps))
        · k_steps
          unfold Pack
          with_unfolding_all refine' check_tells _ _ _ _ _ _ _ _ _ _ _ _ _ _ _ _ _ _ _ _ false ?k1 [(97, "L")] (by decide) (by decide +kernel) ?k2 ?k3 ?k4 ?k5 ?k6 ?k7 ?k8 ?k9 (by simp) ?kA _ (.inr ⟨rfl, rfl⟩) ?ret ?exc
          (case k1 => decide +kernel)
          (case k3 => k_asm)
          (case k2 => k_asm)
          (case k5 => k_asm)
          (case k4 => k_asm)
          (case k6 => k_asm)
          (case k7 => exact rfl)
          (case k8 => with_unfolding_all decide)
          (case k9 => with_unfolding_all decide)
          (case kA => decide)
          (case exc => intro code pos cp hc; exact absurd ((show chk ([(97, "L")].map (·.2)) false = none by decide).symm.trans hc) (by intro z; cases z))
          (case ret =>
            intro hc h8 tk8 F8 N8
            k_steps
            unfold Pack
            with_unfolding_all refine' check_tells _ _ _ _ _ _ _ _ _ _ _ _ _ _ _ _ _ _ _ _ false ?k1 [(55, "EN")] (by decide) (by decide +kernel) ?k2 ?k3 ?k4 ?k5 ?k6 ?k7 ?k8 ?k9 (by simp) ?kA _ (.inr ⟨rfl, rfl⟩) ?ret ?exc
            (case k1 => decide +kernel)
            (case k3 => k_asm)
            (case k2 => k_asm)
            (case k5 => k_asm)
            (case k4 => k_asm)
            (case k6 => k_asm)
            (case k7 => exact rfl)
            (case k8 => with_unfolding_all decide)
            (case k9 => with_unfolding_all decide)
            (case kA => decide)
            (case exc => intro code pos cp hc; exact absurd ((show chk ([(55, "EN")].map (·.2)) false = none by decide).symm.trans hc) (by intro z; cases z))
            (case ret =>
              intro hc h8 tk8 F8 N8
              k_steps))
  )
end Mine
end
set_option maxRecDepth 100000 in
set_option maxHeartbeats 8000000 in
theorem PySem.Challenge.cw_fc0083_01_holds : PySem.Challenge.rw_fc0083_01.Holds := by
  exact Mine.law_walk
