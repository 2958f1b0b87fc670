import PyProof.Rows.All
import Wide.All
import OpenK.AllK
import Wide.FinOn
import PySem.Challenge.RW_co0007_01
open PySem PySem.W PyProof.Rows
set_option Elab.async false
set_option linter.unusedVariables false
set_option linter.unusedSimpArgs false
section
theorem Mine.quiet_TopX : True := by
  w_top off
  trivial
open PySem PySem.W PyProof.Rows
namespace Mine
local macro_rules | `(tactic| k_head) => `(tactic| x_head)
set_option maxRecDepth 100000 in
set_option maxHeartbeats 8000000 in
open_top hd for PySem.Challenge.rw_co0007_01
end Mine
end
section
theorem Mine.quiet_XB : True := by
  w_top off
  trivial
open PySem PySem.W PySem.W.X PyProof.Rows
namespace Mine
/-- what a quiet call leaves behind -/
def Left (s : Shared) (P : Value → List (Addr × Obj) → Prop) (v : Value) (s' : Shared) : Prop :=
  ∃ h' tk news, s' = ⟨h', s.gens, s.drawn, tk, s.os⟩ ∧ Mem s.heap h' [] news ∧ P v news
theorem Left.mk {s : Shared} {P : Value → List (Addr × Obj) → Prop} {v : Value} {h' : Heap} {tk : Nat} {news : List (Addr × Obj)} (D : Mem s.heap h' [] news) (h : P v news) :
  Left s P v ⟨h', s.gens, s.drawn, tk, s.os⟩ := ⟨h', tk, news, rfl, D, h⟩
/-- the surroundings with room made round figures -/
def wide (A : Around) : Around := ⟨A.handled, 600, A.frames, A.guards, 1500⟩
theorem wide_in {Γ : Ctx} {A : Around} (h : Γ.In A) (hd : A.depth ≤ 600) (hu : A.units ≤ 1500) : Γ.In (wide A) := by
  obtain ⟨a, b, c, d, e⟩ := h
  exact ⟨a, Nat.le_trans b hd, c, d, Nat.le_trans e hu⟩
theorem wpAny_wide {M : Model} {α : Type} {A : Around} {t : Sem α} {Q : α → Shared → Prop} {E : Value → Shared → Prop} {s : Shared} (hd : A.depth ≤ 600) (hu : A.units ≤ 1500) (h : wpAny M (wide A) t Q E s) : wpAny M A t Q E s :=
  fun Γ p hΓ => h Γ p (wide_in hΓ hd hu)
end Mine
end
section
theorem Mine.quiet_B0 : True := by
  w_top off
  trivial
open PySem PySem.W PySem.W.X PyProof.Rows PySem.Calls
namespace Mine
abbrev LL : List Str := [Str.ofString "TemplateError", Str.ofString "missing", Str.ofString "Undefined", Str.ofString "ChainableUndefined", Str.ofString "DebugUndefined", Str.ofString "StrictUndefined"]
abbrev PW : Program := PySem.Challenge.pw_co0007_01
abbrev AT (n : Nat) (gd : Option (List Code)) (env : Env) (outer : List Env) : Around := { handled := none, depth := n, frames := some (env :: outer), guards := gd, units := 2 * n }
abbrev SC (nms : List (Str × NameKind)) (more : List (Str × Const)) : Scope := { kind := ScopeKind.function, names := nms, isGenerator := false, isCoroutine := false, more := more }
/-- the four classes of undefined values -/
def IsU (C : Addr) : Prop := C = 197 ∨ C = 229 ∨ C = 250 ∨ C = 264
section
variable {prog : Program} {w : World} {A : Around} {E : Value → Shared → Prop} {s : Shared} {K : Frag} {x C : Addr} {ox : Obj} {od : Option Obj} {name : Str} {expr : Bool} {Q : Value → Shared → Prop}
open Builtin Builtin.ObjectAttr in
theorem get_bindH {g a hook : Value} (X : K.In s.heap) (I : InstAt s.heap x ox C od) (hga : findIn K (.ref C) "__getattribute__" = some (some (.builtin "object.__getattribute__")))
    (hf : findObj K C od name = some (.bind g a)) (hk : findIn K (.ref C) "__getattr__" = some (some hook))
    (h : wpAny (model prog w) A.in1 (call g [a, .ref x, .ref C]) (fun v s' => wpAny (model prog w) A (handedOut v) Q E s') (fun _ _ => False) { s with toks := s.toks + 1 }) :
    wpAny (model prog w) A (getAttr (.ref x) name expr) Q E s := by
  refine get_open X I hga ?_
  obtain ⟨hh', gg, d, t, os⟩ := s
  have L0 := I.type (M := model prog w)
  have L1 := looks_find (M := model prog w) X I hf
  have L2 := looks_findIn (M := model prog w) X hk
  refine wpAny_bind (wpAny_pure (wpAny_bind (L0.at (wpAny_bind (L1.at (wpAny_bind (L2.at ?_)))))))
  show wpAny _ _ (bindOrHook g a (.ref x) (.ref C) (.str name _) hook) _ _ _
  unfold bindOrHook
  refine wpAny_bind (wpAny_attempt (wpAny_holding ?_))
  show wpAny _ _ (holding [a] (call g [a, .ref x, .ref C]) >>= ret) _ _ _
  exact wpAny_bind (wpAny_holding (wpAny_mono h (fun v s' z => wpAny_pure (wpAny_pure z)) fun _ _ z => z.elim))
theorem get_slotH {p : Addr} {hook v : Value} {i : Nat} {od : Obj} (X : K.In s.heap) (I : InstAt s.heap x ox C (some od)) (hga : findIn K (.ref C) "__getattribute__" = some (some (.builtin "object.__getattribute__"))) (hk : findIn K (.ref C) "__getattr__" = some (some hook)) (hc : isClsIn K C = true)
    (ha : findIn K (.ref C) name = some (some (.ref p))) (hn : specialIn K (.ref p) "__get__" = some (some (.builtin "member_descriptor.__get__"))) (ht : takesIn K (.ref p) = some true) (hp : slotIn K p C = some i)
    (hv : (ox.slots[i]?).join = some v) (hh : handedIn v = true) (h : Q v { s with toks := s.toks + 1 }) : wpAny (model prog w) A (getAttr (.ref x) name expr) Q E s :=
  get_bindH X I hga (findObj_data hc ha hn ht) hk (wpAny_call (slot_get (s := { s with toks := s.toks + 1 }) X I hp hv (handed_on hh h)))
theorem method_hook {hook : Value} {pl : Sem Bool} {Q : Value × List Value → Shared → Prop} (X : K.In s.heap) (I : InstAt s.heap x ox C od) (hga : findIn K (.ref C) "__getattribute__" = some (some (.builtin "object.__getattribute__"))) (hk : findIn K (.ref C) "__getattr__" = some (some hook))
    (h : wpAny (model prog w) A (getAttr (.ref x) name) (fun v => Q (v, [])) E s) : wpAny (model prog w) A (getMethod (.ref x) name pl) Q E s := by
  have hcan := PySem.F.canon_object_ga
  unfold getMethod specialOf
  refine wpAny_bind (wpAny_bind (I.type.here ((looks_findIn X hga).here ?_)))
  dsimp only
  rw [hcan, if_neg (by decide)]
  refine wpAny_bind (wpAny_bind (I.type.here ((looks_findIn X hk).here ?_)))
  exact wpAny_bind (wpAny_mono h (fun _ _ z => wpAny_pure z) fun _ _ z => z)
end
end Mine
namespace Mine
section
variable {prog : Program} {w : World} {A : Around} {E : Value → Shared → Prop} {s : Shared} {K : Frag} {env : Env}
/-- an exception just made, of an own class -/
def RaisableC (C : Addr) (h₀ : Shared → Heap → Prop) (E : Value → Shared → Prop) (v : Value) (s₁ : Shared) : Prop :=
  ∃ a ob vs, v = .ref a ∧ s₁.heap.get? a = some ob ∧ ob.cls = .ref C ∧ ob.data = .fields vs ∧ vs[1]? = some .none ∧ E (.ref a) s₁
theorem Raise_own {C : Addr} {e : Expr} {pos : Pos} {Q : Flow → Shared → Prop} (hh : A.handled = none) (hb : mroIn K C (.type "BaseException") = some true) (ht : typeIn K (.ref C) = some (.type "type"))
    (h : wpAny (model prog w) A (eval e env) (fun v s₁ => ∃ a ob vs, v = .ref a ∧ s₁.heap.get? a = some ob ∧ ob.cls = .ref C ∧ ob.data = .fields vs ∧ vs[1]? = some .none ∧ K.In s₁.heap ∧ E (.ref a) s₁) E s) : wpAny (model prog w) A (exec (.Raise (some e) none pos) env) Q E s := by
  show wpAny (model prog w) A (do standAt pos; raiseStmt env (some (do let v ← eval e env; standAt pos; pure v)) none) Q E s
  refine wpAny_bind (wpAny_standAt ?_)
  unfold raiseStmt
  dsimp only
  refine wpAny_bind (wpAny_bind (wpAny_mono h (fun v s₁ h₁ => wpAny_bind (wpAny_standAt (wpAny_pure ?_))) fun _ _ x => x))
  obtain ⟨a, ob, vs, rfl, ha, hcls, hd, h1, X, hE⟩ := h₁
  have L0 : Looks (model prog w) s₁.heap (typeOf (.ref a)) (.ref C) := hcls ▸ (Looks.ld ha).andThen .now
  have hnt : ∀ {Q' : Bool → Shared → Prop}, Q' false s₁ → wpAny (model prog w) A (isType (.ref a)) Q' E s₁ := by
    intro Q' hq
    simp only [isType, loadHead]
    refine wpAny_bind (wpAny_loadPart ha ?_)
    rw [hd]; exact wpAny_pure hq
  refine wpAny_bind (wpAny_pure ?_)
  dsimp only
  refine wpAny_bind (wpAny_holding ?_)
  unfold excFromValue isExcClass
  refine wpAny_bind (wpAny_bind (hnt ?_))
  simp only [Bool.false_eq_true, if_false]
  refine wpAny_pure ?_
  simp only [Bool.false_eq_true, if_false]
  unfold isInstance
  refine wpAny_bind (wpAny_bind (L0.here ((looks_mroIn X hb).here ?_)))
  simp only [if_true]
  refine wpAny_pure ?_
  refine wpAny_bind (hnt ?_)
  simp only [Bool.false_eq_true, if_false]
  unfold raisedInstance
  refine wpAny_bind (wpAny_bind (L0.here (wpAny_bind ((looks_typeIn X ht).here ?_))))
  rw [if_pos (by decide)]
  refine wpAny_pure ?_
  unfold setFlight raiseNew
  refine wpAny_bind (wpAny_bind (wpAny_field ha hd h1 ?_))
  rw [if_neg (by decide)]
  refine wpAny_pure (wpAny_bind (wpAny_handled ?_))
  rw [hh]
  first
    | exact wpAny_throw hE
    | exact wpAny_bind (wpAny_pure (wpAny_throw hE))
end
end Mine
namespace Mine
section
variable {h₀ h h' : Heap} {L : Addr} {m : Str → Option Value} {news mn : List (Addr × Obj)}
theorem mem_keep (D : Mem h h' [] mn) : ∀ b o, h.get? b = some o → h'.get? b = some o := fun b o e => D.keep b o e (by simp [away])
theorem fr_mem (F : Fr h₀ L h m) (D : Mem h h' [] mn) : Fr h₀ L h' m := F.keeps (mem_keep D)
theorem news_mem (F : Fr h₀ L h m) (N : News h₀ L h news) (D : Mem h h' [] mn) : News h₀ L h' (mn ++ news) := by
  intro p hp
  rcases List.mem_append.mp hp with hp | hp
  · obtain ⟨a, b⟩ := D.nw p hp
    refine ⟨a, ?_, ?_⟩
    · rintro rfl
      obtain ⟨o, _, _, ho, _⟩ := F.ns
      rw [ho] at b; cases b
    · cases q : h₀.get? p.1 with
      | none => rfl
      | some o => rw [F.keep _ _ q] at b; cases b
  · exact ⟨mem_keep D _ _ (N p hp).1, (N p hp).2⟩
theorem mem_ne (N : News h₀ L h news) (D : Mem h h' [] mn) : ∀ p ∈ mn, ∀ q ∈ news, q.1 ≠ p.1 := by
  intro p hp q hq e
  have := (D.nw p hp).2
  rw [← e, (N q hq).1] at this
  cases this
/-- one ledger object written anew, all else kept -/
theorem fr_but {e : Addr} {o : Obj} (F : Fr h₀ L h m) (N : News h₀ L h news) (he : (e, o) ∈ news) (k : ∀ y x, y ≠ e → h.get? y = some x → h'.get? y = some x) : Fr h₀ L h' m := by
  obtain ⟨oL, es, ep, hL, r⟩ := F.ns
  refine ⟨⟨oL, es, ep, k _ _ (Ne.symm (N _ he).2.1) hL, r⟩, fun b x q => k _ _ (fun z => ?_) (F.keep b x q), F.above⟩
  have := (N _ he).2.2
  simp only at this
  rw [← z, q] at this; cases this
theorem made_of_news {e t C : Addr} {vs : List Value} (F : Fr h₀ L h' m) (N : News h₀ L h' ((e, ({ cls := .ref C, data := .fields #[.ref t, .none, .none, .none, .bool false, .none] } : Obj)) :: (t, ({ cls := .type "tuple", data := .seq vs.toArray } : Obj)) :: news))
    (h1 : ∀ p ∈ news, p.1 ≠ e) (h2 : ∀ p ∈ news, p.1 ≠ t) : ∃ hx, Heap.MadeExcOf hx h' e (.ref C) vs ∧ Fr h₀ L hx m ∧ News h₀ L hx news := by
  have a1 := N _ (.head _)
  have a2 := N _ (.tail _ (.head _))
  have nm : ∀ b o, h₀.get? b = some o → b ∉ [e, t] := by
    intro b o q hb
    rcases List.mem_cons.mp hb with rfl | hb
    · rw [a1.2.2] at q; cases q
    · rw [List.mem_singleton.mp hb, a2.2.2] at q; cases q
  refine ⟨hideAll h' [e, t], ⟨fun b o q => of_hideAll _ q, hideAll_none _ (.head _), t, a1.1, hideAll_none _ (.tail _ (.head _)), a2.1⟩, ⟨?_, fun b o q => hideAll_get _ (F.keep b o q) (nm b o q), F.above⟩, fun p hp => ?_⟩
  · obtain ⟨oL, es, ep, hL, r⟩ := F.ns
    refine ⟨oL, es, ep, hideAll_get _ hL ?_, r⟩
    intro hb
    rcases List.mem_cons.mp hb with hb | hb
    · exact a1.2.1 hb.symm
    · exact a2.2.1 (List.mem_singleton.mp hb).symm
  · have ap := N p (.tail _ (.tail _ hp))
    refine ⟨hideAll_get _ ap.1 ?_, ap.2⟩
    intro hb
    rcases List.mem_cons.mp hb with hb | hb
    · exact h1 p hp hb
    · exact h2 p hp (List.mem_singleton.mp hb)
end
end Mine
namespace Mine
section
variable {M : Model} {A : Around} {E : Value → Shared → Prop} {s : Shared} {env : Env} {pos : Pos} {f : Value} {first : List Value} {Q : Value → Shared → Prop}
theorem callWith_P {P : Heap → Prop} {e : Expr} {rest : List Expr} (hk : ∀ h, P h → ∃ k, (k = Keeper.frame ∨ k = Keeper.machine ∨ k = Keeper.boundFrame) ∧ Looks M h (keeperOf f) k)
    (h : wpAny M A (spliced (backTo pos (starEach (e :: rest) env))) (fun vs s₁ => P s₁.heap ∧ wpAny M A (call f (first ++ vs)) Q E s₁) E s)
    (he : starEach (e :: rest) env = (false, eval e env) :: starEach rest env := by rfl) (hplain : (backTo pos (starEach rest env)).any (·.1) = false := by rfl) :
    wpAny M A (callWith pos f first (backTo pos (starEach (e :: rest) env)) []) Q E s := by
  rw [he] at h ⊢
  exact callWith_of (P := P) (by show ((false || (backTo pos (starEach rest env)).any (·.1)) || false) = false; rw [hplain]; rfl) hk (evalArgs_plain h)
end
end Mine
namespace Mine
theorem in_le {Γ : Ctx} {A A' : Around} (hh : A.handled = A'.handled) (hd : A.depth ≤ A'.depth) (hf : A.frames = A'.frames) (hg : A.guards = A'.guards) (hu : A.units ≤ A'.units) (h : Γ.In A) : Γ.In A' := by
  obtain ⟨a, b, c, d, e⟩ := h
  exact ⟨a.trans hh, Nat.le_trans b hd, fun l hl => c l (hf.trans hl), fun l hl => d l (hg.trans hl), Nat.le_trans e hu⟩
theorem below_le {Γ : Ctx} {A A' : Around} (hh : A.handled = A'.handled) (hd : A.depth ≤ A'.depth) (hf : A.frames = A'.frames) (hg : A.guards = A'.guards) (hu : A.units ≤ A'.units) (h : Γ.Below A) : Γ.Below A' := by
  obtain ⟨a, b, c, d, e⟩ := h
  exact ⟨a.trans hh, Nat.le_trans b hd, fun l hl => c l (hf.trans hl), fun l hl => d l (hg.trans hl), Nat.le_trans e hu⟩
section
variable {M : Model} {α : Type} {A A' : Around} {t : Sem α} {Q : α → Shared → Prop} {E : Value → Shared → Prop} {s : Shared}
theorem wpAny_le (h : wpAny M A' t Q E s) (hh : A.handled = A'.handled := by rfl) (hd : A.depth ≤ A'.depth := by exact Nat.le_of_ble_eq_true rfl) (hf : A.frames = A'.frames := by rfl) (hg : A.guards = A'.guards := by rfl) (hu : A.units ≤ A'.units := by exact Nat.le_of_ble_eq_true rfl) : wpAny M A t Q E s :=
  fun Γ p hΓ => h Γ p (in_le hh hd hf hg hu hΓ)
theorem codeAny_le {c : Code} {R : Result → Shared → Prop} (h : codeAny M A' c R s) (hh : A.handled = A'.handled := by rfl) (hd : A.depth ≤ A'.depth := by exact Nat.le_of_ble_eq_true rfl) (hf : A.frames = A'.frames := by rfl) (hg : A.guards = A'.guards := by rfl) (hu : A.units ≤ A'.units := by exact Nat.le_of_ble_eq_true rfl) : codeAny M A c R s :=
  fun Γ p hc hΓ => h Γ p hc (below_le hh hd hf hg hu hΓ)
end
end Mine
end
section
theorem Mine.quiet_U3 : True := by
  w_top off
  trivial
open PySem PySem.W PySem.W.X PyProof.Rows PySem.Calls
namespace Mine
section
variable {w : World} {A : Around} {s : Shared} {Q E : Value → Shared → Prop}
local macro_rules | `(tactic| x_close) => `(tactic| (refine Left.mk (by assumption) ?_; exact ⟨_, rfl, rfl⟩))
set_option maxRecDepth 100000 in
set_option maxHeartbeats 8000000 in
theorem wd_get (X : Frag.In (hd.heap_39 w.params) s.heap) (E : Value → Shared → Prop) (e t : Addr) (he : s.heap.get? e = some { cls := .ref 67, data := .fields #[.ref t, .none, .none, .none, .bool false, .none] }) :
  wpAny (model PW w) (wide A) (PySem.call (.builtin "wrapper_descriptor.__get__") [.builtin "Exception.__init__", .ref e, .ref 67]) (Left s fun v news => ∃ b, v = .ref b ∧ news = [(b, ({ cls := .type "method-wrapper", data := .fields #[.builtin "Exception.__init__", .ref e] } : Obj))]) E s := by
  x_run
theorem type_ei : typeOf (.builtin "Exception.__init__") = pure (.type "wrapper_descriptor") := by show builtinType _ = _; rw [builtinType_eq_fast]; kernel_rfl
theorem look_wd : typeLookup (.type "wrapper_descriptor") "__get__" = pure (some (.builtin "wrapper_descriptor.__get__")) := by rw [typeLookup_type, builtinLookup_eq_fast]; kernel_rfl
theorem mro67 (P : Params) : ((([.ref 67, .ref 55, .ref 42, .type "Exception", .type "BaseException", .type "object"] : List Value)).dropWhile (· != .ref 42)).drop 1 = [.type "Exception", .type "BaseException", .type "object"] := by decide
theorem along67 (P : Params) : alongIn (hd.heap_39 P) "__init__" [.type "Exception", .type "BaseException", .type "object"] = some (some (.builtin "Exception.__init__")) := by kernel_rfl
theorem look67 (P : Params) : (hd.heap_39 P).lookup 67 = some (excClassObj (Str.ofString "UndefinedError") (Str.ofString "UndefinedError") 67 66 [.ref 55] [.ref 55, .ref 42, .type "Exception", .type "BaseException", .type "object"] true [] [] false none none
   (some (.ref 58)) none (some (.str (Str.ofString "UndefinedError") 243)) (some (.str (Str.ofString "UndefinedError") 251)) (some (.bool true)) "Exception.__new__") := by kernel_rfl
theorem cls67 (P : Params) : ∃ cd, clsIn (hd.heap_39 P) 67 = some cd ∧ cd.mro = [.ref 67, .ref 55, .ref 42, .type "Exception", .type "BaseException", .type "object"] := ⟨_, by unfold clsIn; rw [look67], rfl⟩
theorem excInst {h : Heap} {e t C : Addr} (he : h.get? e = some { cls := .ref C, data := .fields #[.ref t, .none, .none, .none, .bool false, .none] }) : InstAt h e { cls := .ref C, data := .fields #[.ref t, .none, .none, .none, .bool false, .none] } C none := ⟨he, rfl, rfl, trivial⟩
theorem noThird (P : Params) : nsIn (hd.heap_39 P) cStatics "thirdparty.any" = some none := by kernel_rfl
set_option maxRecDepth 100000 in
set_option maxHeartbeats 400000 in
theorem super_ga {h : Heap} {g d t os} {so e t0 : Addr} {tk : Tok} {Q : Fin → Shared → Prop} {E : Value → Shared → Prop} (hd1 : A.depth ≤ 600) (hu : A.units ≤ 1500)
    (X : Frag.In (hd.heap_39 w.params) h) (hso : h.get? so = some { cls := .type "super", dict := none, data := .fields #[.ref 42, .ref e, .ref 67], slots := #[] }) (he : h.get? e = some { cls := .ref 67, data := .fields #[.ref t0, .none, .none, .none, .bool false, .none] })
    (hq : ∀ h' b tk', Mem h h' [] [(b, ({ cls := .type "method-wrapper", data := .fields #[.builtin "Exception.__init__", .ref e] } : Obj))] → Q (.done (.ret (.ref b))) ⟨h', g, d, tk', os⟩) :
    wpAny (model PW w) A (Builtin.«super.__getattribute__» ⟨[.ref so, .str "__init__" tk], []⟩) Q E ⟨h, g, d, t, os⟩ := by
  have hlk := look_wd
  have hty := type_ei
  obtain ⟨cd, hcd, hmro⟩ := cls67 w.params
  have hC : Looks (model PW w) h (mroOf (.ref 67)) cd.mro := fun A Q E s k q => wpAny_bind ((looks_clsIn X hcd) A _ E s k (wpAny_pure q))
  have hno := looks_opaque (M := model PW w) (C := 67) X (noThird _)
  have hl : (cd.mro.dropWhile (· != .ref 42)).drop 1 = [.type "Exception", .type "BaseException", .type "object"] := by rw [hmro]; exact mro67 w.params
  have hne : (Value.ref e == Value.ref 67) = false := by
    have : e ≠ 67 := ks_ne X (excInst he) hcd
    simp [this]
  have hdt : ({ cls := .type "super", dict := none, data := .fields #[.ref 42, .ref e, .ref 67], slots := #[] } : Obj).data = .fields #[.ref 42, .ref e, .ref 67] := rfl
  have f0 : (#[.ref 42, .ref e, .ref 67] : Array Value)[0]? = some (.ref 42) := rfl
  have f1 : (#[.ref 42, .ref e, .ref 67] : Array Value)[1]? = some (.ref e) := rfl
  have f2 : (#[.ref 42, .ref e, .ref 67] : Array Value)[2]? = some (.ref 67) := rfl
  have hn : ((Str.ofString "__init__") == ("__class__" : Str)) = false := by decide +kernel
  unfold Builtin.«super.__getattribute__»
  iterate 60 (try (fail_if_success (with_reducible show wpAny _ _ (forIn _ _ _) _ _ _)); first
    | (with_reducible refine wpAny_field hso hdt f0 ?_) | (with_reducible refine wpAny_field hso hdt f1 ?_) | (with_reducible refine wpAny_field hso hdt f2 ?_)
    | (with_reducible refine ks_wpAny_notOpaque hno ?_)
    | (with_reducible refine Looks.at hC ?_; rw [hl])
    | (simp only [hn, hne, Bool.or_false, Bool.false_eq_true, if_false])
    | wp_step
    | dsimp only)
  refine ks_forIn_along (K := hd.heap_39 w.params) (name := Str.ofString "__init__") (v := .builtin "Exception.__init__") X (fun _ _ => rfl) ?hk ?_ ?hf
  case hf => exact along67 w.params
  case hk => rfl
  dsimp only
  refine wpAny_bind (wpAny_of_eq hty ?_)
  refine wpAny_bind (wpAny_of_eq hlk ?_)
  dsimp only
  refine wpAny_bind (wpAny_holding ?_)
  refine wpAny_wide hd1 hu ?_
  refine wpAny_mono (wd_get (s := ⟨h, g, d, t, os⟩) X (fun _ _ => False) e t0 he) (fun v s' hl => ?_) fun _ _ z => z.elim
  obtain ⟨h₁, tk, news, rfl, D, b, rfl, rfl⟩ := hl
  exact wpAny_bind (wpAny_pure (wpAny_pure (wpAny_pure (hq _ _ _ D))))
set_option maxRecDepth 100000 in
theorem super_meth {h : Heap} {g d t os} {so e t0 : Addr} {pl : Sem Bool} {Q : Value × List Value → Shared → Prop} {E : Value → Shared → Prop} (hd1 : A.depth ≤ 600) (hu : A.units ≤ 1490)
    (X : Frag.In (hd.heap_39 w.params) h) (hso : h.get? so = some { cls := .type "super", dict := none, data := .fields #[.ref 42, .ref e, .ref 67], slots := #[] }) (he : h.get? e = some { cls := .ref 67, data := .fields #[.ref t0, .none, .none, .none, .bool false, .none] })
    (hq : ∀ h' b tk', Mem h h' [] [(b, ({ cls := .type "method-wrapper", data := .fields #[.builtin "Exception.__init__", .ref e] } : Obj))] → Q (.ref b, []) ⟨h', g, d, tk', os⟩) :
    wpAny (model PW w) A (getMethod (.ref so) "__init__" pl) Q E ⟨h, g, d, t, os⟩ := by
  have hlk := PySem.F.ks_slot_super_ga.lookup
  have hcan := PySem.F.ks_canon_super_ga
  have hT : ∀ t', (⟨h, g, d, t', os⟩ : Shared).TypeIs (.ref so) "super" := fun _ => ⟨_, hso, rfl⟩
  unfold getMethod
  refine wpAny_bind (wpAny_specialOf (hT _) hlk ?_)
  show wpAny _ _ (if (Manifest.canonical "super.__getattribute__" != "object.__getattribute__") = true then _ else _) _ _ _
  rw [if_pos hcan]
  unfold getAttr getAttrBy
  refine wpAny_bind (wpAny_bind (wpAny_mkText (wpAny_holding (wpAny_bind (wpAny_typeOf (hT _) (wpAny_bind (wpAny_of_eq hlk ?_)))))))
  show wpAny _ _ (getAttrByItsOwn (.ref so) (.str _ t) (.type "super") (.builtin "super.__getattribute__") true false) _ _ _
  unfold getAttrByItsOwn hookBefore callGetattribute boundAndCalled
  refine wpAny_bind (wpAny_of_eq (show (if onTheHeap (.type "super") then typeLookup (.type "super") "__getattr__" else pure none) = pure none from rfl) ?_)
  refine wpAny_bind (wpAny_attempt (wpAny_holding ?_))
  show wpAny _ _ (bindSpecial (.builtin "super.__getattribute__") (.ref so) >>= _) _ _ _
  refine wpAny_bind (wpAny_of_eq (PySem.F.ks_slot_super_ga.bind _) ?_)
  refine wpAny_mono (Q := fun v s' => ∃ h' b tk', v = .ref b ∧ s' = ⟨h', g, d, tk', os⟩ ∧ Mem h h' [] [(b, ({ cls := .type "method-wrapper", data := .fields #[.builtin "Exception.__init__", .ref e] } : Obj))]) (E := fun _ _ => False)
    (wpAny_call_entry PySem.F.ks_slot_super_ga (hT _) PySem.F.ks_entry_super_ga (super_ga hd1 (by show _ + 1 ≤ _; omega) X hso he fun h' b tk' D => ⟨_, rfl, h', b, tk', rfl, rfl, D⟩) (PySem.F.ks_gaArgs_super _ _)) (fun v s' hv => ?_) fun _ _ z => z.elim
  obtain ⟨h', b, tk', rfl, rfl, D⟩ := hv
  exact wpAny_pure (wpAny_pure (hq _ _ _ D))
end
end Mine
end
section
theorem Mine.quiet_U4 : True := by
  w_top off
  trivial
open PySem PySem.W PySem.W.X PyProof.Rows PySem.Calls
namespace Mine
section
variable {w : World} {A : Around} {s : Shared} {Q E : Value → Shared → Prop}
theorem check_ei {h : Heap} {g d t os} {M : Model} {Q : Unit → Shared → Prop} {E : Value → Shared → Prop} {e t0 : Addr} {v : Value} (X : Frag.In (hd.heap_39 w.params) h) (he : h.get? e = some { cls := .ref 67, data := .fields #[.ref t0, .none, .none, .none, .bool false, .none] })
    (hq : Q () ⟨h, g, d, t, os⟩) : wpAny M A (checkBoundCall "Exception.__init__" ⟨[.ref e, v], []⟩) Q E ⟨h, g, d, t, os⟩ := by
  have F := PySem.F.excCall_Exception
  have hC := X _ _ (look67 _)
  have hshort := F.noStar
  simp only [checkBoundCall, F.initKind, F.initRow]
  repeat (first | with_reducible refine wpAny_loadPart_at he ?_ | with_reducible refine wpAny_loadPart_at hC ?_ | wp_step)
  exact hq
set_option maxRecDepth 100000 in
set_option maxHeartbeats 1000000 in
theorem mw_call {h : Heap} {g d t os} {b e t0 : Addr} {v : Value} {Q : Value → Shared → Prop} {E : Value → Shared → Prop} 
    (X : Frag.In (hd.heap_39 w.params) h) (hb : h.get? b = some { cls := .type "method-wrapper", data := .fields #[.builtin "Exception.__init__", .ref e] }) (he : h.get? e = some { cls := .ref 67, data := .fields #[.ref t0, .none, .none, .none, .bool false, .none] })
    (hq : ∀ h', h'.get? e = some { cls := .ref 67, data := .fields #[.ref h.objs.size, .none, .none, .none, .bool false, .none] } → h'.get? h.objs.size = some { cls := .type "tuple", data := .seq #[v] } → (∀ y o, y ≠ e → h.get? y = some o → h'.get? y = some o) → Q .none ⟨h', g, d, t, os⟩) :
    wpAny (model PW w) A (PySem.call (.ref b) [v]) Q E ⟨h, g, d, t, os⟩ := by
  refine wpAny_call (codeAny_of_tree ?_)
  show wpAny _ _ (callAny (.ref b) _) _ _ _
  unfold callAny
  refine wpAny_bind (wpAny_load hb ?_)
  show wpAny _ _ (checkBoundCall "Exception.__init__" ⟨[.ref e, v], []⟩ >>= _) _ _ _
  refine wpAny_bind (check_ei X he ?_)
  refine wpAny_pure ⟨Code.quiet_builtin _ (by decide +kernel), codeAny_builtin PySem.F.excCall_Exception.initEntry ?_⟩
  wp_walk
  refine hq _ ?_ ?_ ?_
  · rw [Heap.get?_update_self _ (Heap.get?_push_of_some _ he) rfl]
    rfl
  · rw [Heap.get?_update_other _ _ (Nat.ne_of_lt (Heap.lt_size he))]
    exact Heap.get?_push_size _ rfl
  · intro y o hy ho
    rw [Heap.get?_update_other _ _ (Ne.symm hy)]
    exact Heap.get?_push_of_some _ ho
end
end Mine
end
section
theorem Mine.quiet_U5 : True := by
  w_top off
  trivial
open PySem PySem.W PySem.W.X PyProof.Rows PySem.Calls
namespace Mine
abbrev excO (C t : Addr) : Obj := { cls := .ref C, data := .fields #[.ref t, .none, .none, .none, .bool false, .none] }
abbrev tupO (vs : List Value) : Obj := { cls := .type "tuple", data := .seq vs.toArray }
section
variable {w : World} {mean : ExcName → Option Value} {mg mb : Str → Option Value} {gd : Option (List Code)} {env : Env} {outer : List Env} {A₀ A : Around} {base h₀ : Heap} {L : Addr} {m : Str → Option Value} {news : List (Addr × Obj)} {s : Shared} {Q E : Value → Shared → Prop}
set_option maxRecDepth 100000 in
set_option maxHeartbeats 4000000 in
theorem ue_init (B : Below A₀ base outer h₀) (F : Fr h₀ L s.heap m) (X : (hd.heap_39 w.params).In h₀) (T : Top hd.view_39 (looseW hd.view_39 LL) mean mg mb h₀) 
   (hA : A.frames = some (env :: outer)) (hf : env.frame = some L) (hke : env.scope.kind = .function) (hd1 : A.depth ≤ 590) (hu : A.units ≤ 1400) (v : Value) (e t : Addr)
   (N : News h₀ L s.heap ((e, excO 67 t) :: news)) (hne : ∀ p ∈ news, p.1 ≠ e) (R : Result → Shared → Prop)
   (hR : ∀ h' tk t', Fr h₀ L h' m → News h₀ L h' ((e, excO 67 t') :: (t', tupO [v]) :: news) → (∀ p ∈ news, p.1 < t') → e < t' → R (.ok (.ret .none)) { s with heap := h', toks := tk }) :
   codeAny (model PW w) A (.call (.ref 31) ⟨[.ref e, v], []⟩) R s := by
  (refine' ks_code_super B F X N T hA hf hke ?k6 ?k7 ?k8 ?k9 ?kB ?_ ?c1 ?c2 ?c3 ?c4; (case k6 => k_is); (case k7 => k_is); (case k8 => (show A.depth < 1000; omega)); (case k9 => exact binds_K (X.keeps F.keep) rfl (by k_is) rfl rfl rfl); (case kB => exact locs rfl); (case c1 => decide); (case c2 => exact rfl); (case c3 => exact rfl); (case c4 => exact rfl))
  intro g L' h₁ FG F' N' B' X' T' l1
  (try dsimp only)
  refine ks_wpAt_execs_cons ?_
  refine ks_wpAt_Expr_any ?_
  refine ks_wpAt_MethodCall ?_
  k_dflt (refine ks_node F' X' N' T' (by k_is) (by rfl) (by rfl) (excInst (N' _ (.head _)).1) (by k_is) (by rfl) (by first | rfl | decide +kernel) (by k_is) (by k_is) (by k_is) (by k_is) (by decide) (by rfl) (by rfl) (by rfl) (by rfl) (by decide +kernel) (by first | boot_by_name | rfl | kernel_rfl) ?_)
  intro so h2 F2 N2 l2
  refine super_meth (by show A.depth + 1 ≤ _; omega) (by show A.units + 3 ≤ _; omega) (X'.keeps F2.keep) (N2 _ (.head _)).1 (N2 _ (.tail _ (.head _))).1 ?_
  intro h3 b tk3 D3
  have F3 := fr_mem F2 D3
  have N3 := news_mem F2 N2 D3
  have hbne : ∀ p ∈ ((so, ks_superObj 42 e 67) :: (e, excO 67 t) :: news), p.1 ≠ b := fun p hp => mem_ne N2 D3 _ (.head _) p hp
  simp only [List.cons_append, List.nil_append] at N3
  refine callWith_P (P := fun h => h.get? b = some { cls := .type "method-wrapper", data := .fields #[.builtin "Exception.__init__", .ref e] }) (fun h hb => ⟨.machine, .inr (.inl rfl), (Looks.ld (part := none) hb).andThen .now⟩) ?_
  clear N2 D3
  k_steps
  · exact (N3 _ (.head _)).1
  · have hem : (e, excO 67 t) ∈ ((b, ({ cls := .type "method-wrapper", data := .fields #[.builtin "Exception.__init__", .ref e] } : Obj)) :: (so, ks_superObj 42 e 67) :: (e, excO 67 t) :: news) := .tail _ (.tail _ (.head _))
    refine mw_call (X'.keeps F3.keep) (N3 _ (.head _)).1 (N3 _ hem).1 ?_
    intro h4 e4 t4 k4
    have F4 := fr_but F3 N3 hem k4
    have hlt : ∀ p ∈ news, p.1 < h3.objs.size := fun p hp => Heap.lt_size (N3 p (.tail _ (.tail _ (.tail _ hp)))).1
    have N4 : News g L' h4 ((e, excO 67 h3.objs.size) :: (h3.objs.size, tupO [v]) :: news) := by
      intro p hp
      rcases List.mem_cons.mp hp with rfl | hp
      · exact ⟨e4, (N3 _ hem).2⟩
      rcases List.mem_cons.mp hp with rfl | hp
      · obtain ⟨oL, _, _, hL, _⟩ := F3.ns
        refine ⟨t4, Nat.ne_of_gt (Heap.lt_size hL), ?_⟩
        cases q : g.get? h3.objs.size with
        | none => rfl
        | some o => exact absurd (Heap.lt_size (F3.keep _ _ q)) (Nat.lt_irrefl _)
      · have z := N3 p (.tail _ (.tail _ (.tail _ hp)))
        exact ⟨k4 _ _ (hne p hp) z.1, z.2⟩
    refine wpAt_of_wpAny (wpAny_pure ?_)
    exact leaveK_ F4 N4 fun kF kN => hR _ _ _ kF kN hlt (Heap.lt_size (N3 _ hem).1)
end
end Mine
end
section
theorem Mine.quiet_U6 : True := by
  w_top off
  trivial
open PySem PySem.W PySem.W.X PyProof.Rows PySem.Calls
namespace Mine
section
variable {w : World} {mean : ExcName → Option Value} {mg mb : Str → Option Value} {gd : Option (List Code)} {env : Env} {outer : List Env} {A₀ A : Around} {base h₀ : Heap} {L : Addr} {m : Str → Option Value} {news : List (Addr × Obj)} {s : Shared} {Q E : Value → Shared → Prop}
section
local macro_rules | `(tactic| x_close) => `(tactic| (refine Left.mk (by assumption) ?_; exact ⟨_, _, rfl, rfl⟩))
set_option maxRecDepth 100000 in
set_option maxHeartbeats 8000000 in
theorem ue_new (X : Frag.In (hd.heap_39 w.params) s.heap) (E : Value → Shared → Prop) (t2 : Tok) (msg : Str) :
  wpAny (model PW w) (wide A) (PySem.call (.builtin "Exception.__new__") [.ref 67, .str msg t2]) (Left s fun v news => ∃ e t, v = .ref e ∧ news = [(e, ({ cls := .ref 67, data := .fields #[.ref t, .none, .none, .none, .bool false, .none] } : Obj)), (t, ({ cls := .type "tuple", data := .seq #[.str msg t2] } : Obj))]) E s := by
  x_run
end
set_option maxRecDepth 100000 in
set_option maxHeartbeats 2000000 in
theorem ue_call (B : Below A₀ base outer h₀) (F : Fr h₀ L s.heap m) (X₀ : (hd.heap_39 w.params).In h₀) (T : Top hd.view_39 (looseW hd.view_39 LL) mean mg mb h₀) (N : News h₀ L s.heap news)
   (hA : A.frames = some (env :: outer)) (hf : env.frame = some L) (hke : env.scope.kind = .function) (hd1 : A.depth ≤ 580) (hu : A.units ≤ 1390) (msg : Str) (t2 : Tok)
   (hQ : ∀ h' tk e t, Fr h₀ L h' m → News h₀ L h' ((e, excO 67 t) :: (t, tupO [.str msg t2]) :: news) → (∀ p ∈ news, p.1 ≠ e) → (∀ p ∈ news, p.1 ≠ t) → Q (.ref e) { s with heap := h', toks := tk }) :
   wpAny (model PW w) A (PySem.call (.ref 67) [.str msg t2]) Q E s := by
  have X := X₀.keeps F.keep
  have hC := X _ _ (look67 _)
  have f1 := tc_lookup
  have f2 := tc_bind (.ref 67)
  obtain ⟨h, g, d, t, os⟩ := s
  have hT : (⟨h, g, d, t, os⟩ : Shared).TypeIs (.ref 67) "type" := ⟨_, hC, rfl⟩
  refine wpAny_call (codeAny_of_tree ?_)
  show wpAny _ _ (callAny (.ref 67) _) _ _ _
  repeat (any_goals (first | assumption | with_reducible refine wpAny_loadPart_at hC ?_ | wp_step))
  refine ⟨rfl, ?_⟩
  refine codeAny_call_builtin_at (Code.quiet_builtin _ (by decide +kernel)) entry_typeCall (wpAny_check_type_call_sub hC ?_)
  repeat ((fail_if_success (with_reducible show wpAny _ _ (PySem.call (Value.builtin _) _ _) _ _ _)); first | with_reducible refine wpAny_loadPart_at hC ?_ | with_reducible refine wpAny_madeBy_exc hC ?_ | wp_step)
  refine wpAny_wide (by show _ + 1 ≤ _; omega) (by show A.units + 1 ≤ _; omega) ?_
  refine wpAny_mono (ue_new (s := ⟨h, g, d, t, os⟩) X (fun _ _ => False) t2 msg) (fun v s' hl => ?_) fun _ _ z => z.elim
  obtain ⟨h₁, tk, nn, rfl, D, e, t0, rfl, rfl⟩ := hl
  have F1 := fr_mem F D
  have N1 := news_mem F N D
  have hne := mem_ne N D _ (.head _)
  have X1 := X₀.keeps F1.keep
  have I := excInst (N1 _ (.head _)).1
  have L0 := I.type (M := model PW w)
  refine wpAny_bind ?_
  unfold isInstance
  refine wpAny_bind (L0.here ((looks_mroIn X1 (C := 67) (base := .ref 67) (r := true) (by kernel_rfl)).here ?_))
  simp only [Bool.not_true, Bool.false_eq_true, if_false]
  refine wpAny_bind (wpAny_holding (special_fn X1 I (f := 31) (by kernel_rfl) (by kernel_rfl) ?_))
  refine wpAny_call (ue_init (news := news) B F1 X₀ T ?_ hf hke (by show _ + 1 ≤ _; omega) (by show A.units + 1 ≤ _; omega) (.str msg t2) e t0 (fun p hp => N1 p ?_) hne _ ?_)
  · show (A.under _).frames = _
    unfold PySem.Around.under
    simp [hA]; rfl
  · rcases List.mem_cons.mp hp with rfl | hp
    · exact .head _
    · exact .tail _ (.tail _ hp)
  intro h2 tk2 t' F2 N2 hl he
  exact wpAny_pure (hQ _ _ e t' F2 N2 hne fun p hp => Nat.ne_of_lt (hl p hp))
end
end Mine
end
section
theorem Mine.quiet_V1 : True := by
  w_top off
  trivial
open PySem PySem.W PySem.W.X PyProof.Rows PySem.Calls
namespace Mine
abbrev uObj (C d : Addr) (hint name obj : Value) : Obj := { cls := .ref C, dict := some d, data := .plain, slots := #[some (.ref 67), some hint, some name, some obj] }
/-- what the four classes have in common -/
structure UFacts (K : Frag) (C : Addr) : Prop where
  ga : findIn K (.ref C) "__getattribute__" = some (some (.builtin "object.__getattribute__"))
  hook : findIn K (.ref C) "__getattr__" = some (some (.ref (if C = 229 then 218 else 137)))
  cls : isClsIn K C = true
  exc : findIn K (.ref C) "_undefined_exception" = some (some (.ref 198)) ∧ slotIn K 198 C = some 0
  hint : findIn K (.ref C) "_undefined_hint" = some (some (.ref 199)) ∧ slotIn K 199 C = some 1
  name : findIn K (.ref C) "_undefined_name" = some (some (.ref 200)) ∧ slotIn K 200 C = some 2
  obj : findIn K (.ref C) "_undefined_obj" = some (some (.ref 201)) ∧ slotIn K 201 C = some 3
  msg : findIn K (.ref C) "_undefined_message" = some (some (.ref 123))
  isU : isIn K (.ref C) 197 = true
theorem uFacts (P : Params) {C : Addr} (hC : IsU C) : UFacts (hd.heap_39 P) C := by
  rcases hC with rfl | rfl | rfl | rfl <;> exact ⟨by kernel_rfl, by kernel_rfl, by kernel_rfl, ⟨by kernel_rfl, by kernel_rfl⟩, ⟨by kernel_rfl, by kernel_rfl⟩, ⟨by kernel_rfl, by kernel_rfl⟩, ⟨by kernel_rfl, by kernel_rfl⟩, by kernel_rfl, by kernel_rfl⟩
theorem md_get (P : Params) (p : Addr) (hp : p = 198 ∨ p = 199 ∨ p = 200 ∨ p = 201) : specialIn (hd.heap_39 P) (.ref p) "__get__" = some (some (.builtin "member_descriptor.__get__")) ∧ takesIn (hd.heap_39 P) (.ref p) = some true := by
  rcases hp with rfl | rfl | rfl | rfl <;> exact ⟨by kernel_rfl, by kernel_rfl⟩
section
variable {w : World} {A : Around} {s : Shared} {Q E : Value → Shared → Prop} {x d C : Addr} {hint name obj : Value} {od : Obj} {ex : Bool}
theorem u_inst {h : Heap} {h₀ : Heap} {L : Addr} {news : List (Addr × Obj)} {es n} (N : News h₀ L h news) (h1 : (x, uObj C d hint name obj) ∈ news) (h2 : (d, dictOf es n) ∈ news) : W.InstAt h x (uObj C d hint name obj) C (some (dictOf es n)) := ⟨(N _ h1).1, rfl, rfl, (N _ h2).1⟩
theorem u_exc (hC : IsU C) (X : Frag.In (hd.heap_39 w.params) s.heap) (I : W.InstAt s.heap x (uObj C d hint name obj) C (some od)) (h : Q (.ref 67) { s with toks := s.toks + 1 }) : wpAny (model PW w) A (getAttr (.ref x) "_undefined_exception" ex) Q E s :=
  have U := uFacts w.params hC; have G := md_get w.params 198 (.inl rfl)
  get_slotH X I U.ga U.hook U.cls U.exc.1 G.1 G.2 U.exc.2 rfl rfl h
theorem u_hint (hC : IsU C) (X : Frag.In (hd.heap_39 w.params) s.heap) (I : W.InstAt s.heap x (uObj C d hint name obj) C (some od)) (hh : handedIn hint = true) (h : Q hint { s with toks := s.toks + 1 }) : wpAny (model PW w) A (getAttr (.ref x) "_undefined_hint" ex) Q E s :=
  have U := uFacts w.params hC; have G := md_get w.params 199 (.inr (.inl rfl))
  get_slotH X I U.ga U.hook U.cls U.hint.1 G.1 G.2 U.hint.2 rfl hh h
theorem u_name (hC : IsU C) (X : Frag.In (hd.heap_39 w.params) s.heap) (I : W.InstAt s.heap x (uObj C d hint name obj) C (some od)) (hh : handedIn name = true) (h : Q name { s with toks := s.toks + 1 }) : wpAny (model PW w) A (getAttr (.ref x) "_undefined_name" ex) Q E s :=
  have U := uFacts w.params hC; have G := md_get w.params 200 (.inr (.inr (.inl rfl)))
  get_slotH X I U.ga U.hook U.cls U.name.1 G.1 G.2 U.name.2 rfl hh h
theorem u_obj (hC : IsU C) (X : Frag.In (hd.heap_39 w.params) s.heap) (I : W.InstAt s.heap x (uObj C d hint name obj) C (some od)) (hh : handedIn obj = true) (h : Q obj { s with toks := s.toks + 1 }) : wpAny (model PW w) A (getAttr (.ref x) "_undefined_obj" ex) Q E s :=
  have U := uFacts w.params hC; have G := md_get w.params 201 (.inr (.inr (.inr rfl)))
  get_slotH X I U.ga U.hook U.cls U.obj.1 G.1 G.2 U.obj.2 rfl hh h
theorem u_method {nm : Str} {pl : Sem Bool} {Q : Value × List Value → Shared → Prop} (hC : IsU C) (X : Frag.In (hd.heap_39 w.params) s.heap) (I : W.InstAt s.heap x (uObj C d hint name obj) C (some od))
    (h : wpAny (model PW w) A (getAttr (.ref x) nm) (fun v => Q (v, [])) E s) : wpAny (model PW w) A (getMethod (.ref x) nm pl) Q E s :=
  have U := uFacts w.params hC
  method_hook X I U.ga U.hook h
theorem u_message (hC : IsU C) (X : Frag.In (hd.heap_39 w.params) s.heap) (I : W.InstAt s.heap x (uObj C d hint name obj) C (some od))
    (h : codeAny (model PW w) A.in1 (.call (.ref 122) ⟨[.ref x], []⟩) (fun r s' => match r with | .ok (.ret v) => handedIn v = true ∧ Q v s' | .ok _ => False | .error e => False) { s with toks := s.toks + 1 }) : wpAny (model PW w) A (getAttr (.ref x) "_undefined_message" ex) Q E s := by
  have U := uFacts w.params hC
  refine get_bindH X I U.ga (findObj_data (g := .builtin "property.__get__") U.cls U.msg (by kernel_rfl) (by kernel_rfl)) U.hook (wpAny_call (prop_get (s := { s with toks := s.toks + 1 }) X (fget := 122) (rest := [.none, .none, .none, .str "_undefined_message" 333, .bool false]) (by kernel_rfl) ?_))
  refine codeAny_mono h fun r s' z => ?_
  rcases r with e | (_ | _ | _ | v)
  · exact z
  · exact z
  · exact z
  · exact z
  · exact handed_on z.1 z.2
end
end Mine
end
section
theorem Mine.quiet_V2 : True := by
  w_top off
  trivial
open PySem PySem.W PySem.W.X PyProof.Rows PySem.Calls
namespace Mine
section
variable {w : World} {mean : ExcName → Option Value} {mg mb : Str → Option Value} {gd : Option (List Code)} {cn : Str} {nms : List (Str × NameKind)} {more : List (Str × Const)} {a : Addr} {ccd : Value} {outer : List Env} {A₀ : Around} {base h₀ : Heap} {L : Addr} {m : Str → Option Value} {news : List (Addr × Obj)} {s : Shared} {Q E : Value → Shared → Prop}
local macro_rules | `(tactic| walk_at "getAttr ref") => `(tactic| (k_here; k_dflt (first
  | ((with_reducible show wpAny _ _ (getAttr (Value.ref _) (PySem.Str.ofString "_undefined_hint") _) _ _ _); refine' u_hint ?c ?x ?i ?h ?_; (case i => (refine' u_inst ?n ?a ?b; (case n => k_asm); (case a => assumption); (case b => assumption))); (case c => assumption); (case x => k_in); (case h => rfl))
  | ((with_reducible show wpAny _ _ (getAttr (Value.ref _) (PySem.Str.ofString "_undefined_obj") _) _ _ _); refine' u_obj ?c ?x ?i ?h ?_; (case i => (refine' u_inst ?n ?a ?b; (case n => k_asm); (case a => assumption); (case b => assumption))); (case c => assumption); (case x => k_in); (case h => rfl))
  | ((with_reducible show wpAny _ _ (getAttr (Value.ref _) (PySem.Str.ofString "_undefined_name") _) _ _ _); refine' u_name ?c ?x ?i ?h ?_; (case i => (refine' u_inst ?n ?a ?b; (case n => k_asm); (case a => assumption); (case b => assumption))); (case c => assumption); (case x => k_in); (case h => rfl)))))
theorem rep {prog : Program} {A : Around} {x : Str} {t : Tok} {Q : Value → Shared → Prop} (y : Str) (e : reprText x = y) (hz : y.length ≤ sizeLine) (h : Q (.str y s.toks) { s with toks := s.toks + 1 }) : wpAny (model prog w) A (pyReprObj (.str x t)) Q E s := by
  subst e
  exact wpAny_pyReprObj_str h hz
local macro_rules | `(tactic| walk_at "pyReprObj str") => `(tactic| first
  | ((with_reducible show wpAny _ _ (pyReprObj (Value.str (PySem.Str.ofString "x") _)) _ _ _); refine rep (PySem.Str.ofString "'x'") (by decide +kernel) (by decide +kernel) ?_)
  | ((with_reducible show wpAny _ _ (pyReprObj (Value.str (PySem.Str.ofString "b") _)) _ _ _); refine rep (PySem.Str.ofString "'b'") (by decide +kernel) (by decide +kernel) ?_)
  | ((with_reducible show wpAny _ _ (pyReprObj (Value.str (PySem.Str.ofString "dict object") _)) _ _ _); refine rep (PySem.Str.ofString "'dict object'") (by decide +kernel) (by decide +kernel) ?_))
set_option maxRecDepth 100000 in
set_option maxHeartbeats 4000000 in
theorem prop1 (B : Below A₀ base outer h₀) (F : Fr h₀ L s.heap m) (X : (hd.heap_39 w.params).In h₀) (N : News h₀ L s.heap news) (T : Top hd.view_39 (looseW hd.view_39 LL) mean mg mb h₀) 
    {C x d r : Addr} {tn : Tok} {es : List DictEntry} {n : Nat} {dd : Option Addr} {dt : Data} {sl : Array (Option Value)} (hC : IsU C) (hx : (x, uObj C d .none (.str (Str.ofString "b") tn) (.ref r)) ∈ news) (hdx : (d, (dictOf es n : Obj)) ∈ news) (hr : (r, (⟨.type "dict", dd, dt, sl⟩ : Obj)) ∈ news)
    {R : Result → Shared → Prop} (hR : ∀ h' tk t msg, Fr h₀ L h' m → News h₀ L h' news → R (.ok (.ret (.str msg t))) { s with heap := h', toks := tk })  :
    codeAny (model PW w) (AT 580 gd (envOf cn (SC nms more) L a ccd) outer) (.call (.ref 122) ⟨[.ref x], []⟩) R s := by
  k_enter
  k_steps
  rw [show Str.empty ++ Str.ofString "dict" ++ Str.ofString " object" = Str.ofString "dict object" from by decide +kernel]
  k_steps
  exact hR _ _ _ _ (by k_asm) (by k_asm)
set_option maxRecDepth 100000 in
set_option maxHeartbeats 4000000 in
theorem prop0 (B : Below A₀ base outer h₀) (F : Fr h₀ L s.heap m) (X : (hd.heap_39 w.params).In h₀) (N : News h₀ L s.heap news) (T : Top hd.view_39 (looseW hd.view_39 LL) mean mg mb h₀) 
    {C x d : Addr} {tn : Tok} {es : List DictEntry} {n : Nat} (hC : IsU C) (hx : (x, uObj C d .none (.str (Str.ofString "x") tn) (.ref 92)) ∈ news) (hdx : (d, (dictOf es n : Obj)) ∈ news)
    {R : Result → Shared → Prop} (hR : ∀ h' tk t msg, Fr h₀ L h' m → News h₀ L h' news → R (.ok (.ret (.str msg t))) { s with heap := h', toks := tk })  :
    codeAny (model PW w) (AT 580 gd (envOf cn (SC nms more) L a ccd) outer) (.call (.ref 122) ⟨[.ref x], []⟩) R s := by
  k_enter
  k_steps
  exact hR _ _ _ _ (by k_asm) (by k_asm)
set_option maxRecDepth 100000 in
set_option maxHeartbeats 4000000 in
theorem prop2 (B : Below A₀ base outer h₀) (F : Fr h₀ L s.heap m) (X : (hd.heap_39 w.params).In h₀) (N : News h₀ L s.heap news) (T : Top hd.view_39 (looseW hd.view_39 LL) mean mg mb h₀) 
    {C x d : Addr} {tn : Tok} {nm ob : Value} {es : List DictEntry} {n : Nat} (hC : IsU C) (hx : (x, uObj C d (.str (Str.ofString "no such thing") tn) nm ob) ∈ news) (hdx : (d, (dictOf es n : Obj)) ∈ news)
    {R : Result → Shared → Prop} (hR : ∀ h' tk t msg, Fr h₀ L h' m → News h₀ L h' news → R (.ok (.ret (.str msg t))) { s with heap := h', toks := tk })  :
    codeAny (model PW w) (AT 580 gd (envOf cn (SC nms more) L a ccd) outer) (.call (.ref 122) ⟨[.ref x], []⟩) R s := by
  k_enter
  k_steps
  exact hR _ _ _ _ (by k_asm) (by k_asm)
end
end Mine
end
section
theorem Mine.quiet_V3 : True := by
  w_top off
  trivial
open PySem PySem.W PySem.W.X PyProof.Rows PySem.Calls
namespace Mine
/-- an undefined value of class C, made in one of the three ways, stands in the ledger -/
inductive ULed (news : List (Addr × Obj)) (C : Addr) : Addr → Nat → Prop
  | w0 {x d n : Nat} {tn : Tok} : (x, uObj C d .none (.str (Str.ofString "x") tn) (.ref 92)) ∈ news → (d, (dictOf [] n : Obj)) ∈ news → ULed news C x 0
  | w1 {x d r n : Nat} {tn : Tok} {dd : Option Addr} {dt : Data} {sl : Array (Option Value)} : (x, uObj C d .none (.str (Str.ofString "b") tn) (.ref r)) ∈ news → (d, (dictOf [] n : Obj)) ∈ news → (r, (⟨.type "dict", dd, dt, sl⟩ : Obj)) ∈ news → ULed news C x 1
  | w2 {x d n : Nat} {tn : Tok} : (x, uObj C d (.str (Str.ofString "no such thing") tn) .none (.ref 92)) ∈ news → (d, (dictOf [] n : Obj)) ∈ news → ULed news C x 2
theorem ULed.mono {news news' : List (Addr × Obj)} {C x : Addr} {k : Nat} (h : ULed news C x k) (hs : ∀ p ∈ news, p ∈ news') : ULed news' C x k := by
  cases h with
  | w0 a b => exact .w0 (hs _ a) (hs _ b)
  | w1 a b c => exact .w1 (hs _ a) (hs _ b) (hs _ c)
  | w2 a b => exact .w2 (hs _ a) (hs _ b)
theorem ULed.inst {h₀ h : Heap} {L : Addr} {news : List (Addr × Obj)} {C x : Addr} {k : Nat} (u : ULed news C x k) (N : News h₀ L h news) : ∃ d hint name obj od, W.InstAt h x (uObj C d hint name obj) C (some od) := by
  cases u with
  | w0 a b => exact ⟨_, _, _, _, _, u_inst N a b⟩
  | w1 a b c => exact ⟨_, _, _, _, _, u_inst N a b⟩
  | w2 a b => exact ⟨_, _, _, _, _, u_inst N a b⟩
theorem raisedS_sub {base G : Heap} {l : List Env} {e t : Addr} {cls : Value} {vs : List Value} {news news' : List (Addr × Obj)} {h : Heap} (R : RaisedS base G l e cls t vs news h) (hs : ∀ p ∈ news', p ∈ news) : RaisedS base G l e cls t vs news' h := by
  obtain ⟨⟨B, a, b, c, d⟩, f⟩ := R
  exact ⟨⟨B, a, b, fun q hq => c q (hs q hq), d⟩, f⟩
section
variable {w : World} {mean : ExcName → Option Value} {mg mb : Str → Option Value} {gd : Option (List Code)} {cn : Str} {nms : List (Str × NameKind)} {more : List (Str × Const)} {a : Addr} {ccd : Value} {outer : List Env} {A₀ : Around} {base h₀ : Heap} {L : Addr} {m : Str → Option Value} {news : List (Addr × Obj)} {s : Shared} {Q E : Value → Shared → Prop}
theorem prop_any (B : Below A₀ base outer h₀) (F : Fr h₀ L s.heap m) (X : (hd.heap_39 w.params).In h₀) (N : News h₀ L s.heap news) (T : Top hd.view_39 (looseW hd.view_39 LL) mean mg mb h₀) 
    {C x : Addr} {k : Nat} (hC : IsU C) (hU : ULed news C x k)
    {R : Result → Shared → Prop} (hR : ∀ h' tk t msg, Fr h₀ L h' m → News h₀ L h' news → R (.ok (.ret (.str msg t))) { s with heap := h', toks := tk })  :
    codeAny (model PW w) (AT 580 gd (envOf cn (SC nms more) L a ccd) outer) (.call (.ref 122) ⟨[.ref x], []⟩) R s := by
  cases hU with
  | w0 a b => exact prop0 B F X N T hC a b hR
  | w1 a b c => exact prop1 B F X N T hC a b c hR
  | w2 a b => exact prop2 B F X N T hC a b hR
theorem u_exc_m {A : Around} {C x k : Nat} {pl : Sem Bool} {news' : List (Addr × Obj)} {Q : Value × List Value → Shared → Prop} (hC : IsU C) (X₀ : Frag.In (hd.heap_39 w.params) h₀) (F : Fr h₀ L s.heap m) (N : News h₀ L s.heap news') (hU : ULed news C x k) (hs : ∀ p ∈ news, p ∈ news')
    (h : Q (.ref 67, []) { s with toks := s.toks + 1 }) : wpAny (model PW w) A (getMethod (.ref x) "_undefined_exception" pl) Q E s := by
  obtain ⟨d, hint, name, obj, od, I⟩ := (hU.mono hs).inst N
  exact u_method hC (X₀.keeps F.keep) I (u_exc hC (X₀.keeps F.keep) I h)
local macro_rules | `(tactic| walk_at "getMethod ref") => `(tactic| ((with_reducible show wpAny _ _ (getMethod (Value.ref _) (PySem.Str.ofString "_undefined_exception") _) _ _ _); k_dflt (refine' u_exc_m ?c ?x ?f ?n ?u ?s ?_; (case c => assumption); (case x => k_asm); (case f => k_asm); (case n => k_asm); (case u => assumption); (case s => (intro p hp; repeat (first | exact hp | refine List.Mem.tail _ ?_)))); (try dsimp only)))
theorem u_msg_ex {A : Around} {C x k : Nat} {ex : Bool} {Q : Value → Shared → Prop} {news' : List (Addr × Obj)} (hA : A.handled = none ∧ A.depth ≤ 580 ∧ A.frames = some (envOf cn (SC nms more) L a ccd :: outer) ∧ A.guards = gd ∧ A.units ≤ 1150)
    (B : Below A₀ base outer h₀) (F : Fr h₀ L s.heap m) (X : (hd.heap_39 w.params).In h₀) (N : News h₀ L s.heap news') (T : Top hd.view_39 (looseW hd.view_39 LL) mean mg mb h₀) (hC : IsU C) (hU : ULed news C x k) (hs : ∀ p ∈ news, p ∈ news')
    (h : ∀ h' tk t msg, Fr h₀ L h' m → News h₀ L h' news' → Q (.str msg t) { s with heap := h', toks := tk }) : wpAny (model PW w) A (getAttr (.ref x) "_undefined_message" ex) Q E s := by
  obtain ⟨d, hint, name, obj, od, I⟩ := (hU.mono hs).inst N
  obtain ⟨a1, a2, a3, a4, a5⟩ := hA
  exact u_message hC (X.keeps F.keep) I (codeAny_le (prop_any (s := { s with toks := s.toks + 1 }) B F X N T hC (hU.mono hs) fun h' tk t msg F' N' => ⟨rfl, h h' tk t msg F' N'⟩) a1 (by show A.depth ≤ 580; omega) a3 a4 (by show A.units + 1 ≤ 2 * 580; omega))
theorem Raise_ue {A : Around} {env : Env} {e : Expr} {pos : Pos} {Q : Flow → Shared → Prop} (hh : A.handled = none)
    (h : wpAny (model PW w) A (eval e env) (fun v s₁ => ∃ a ob vs, v = .ref a ∧ s₁.heap.get? a = some ob ∧ ob.cls = .ref 67 ∧ ob.data = .fields vs ∧ vs[1]? = some .none ∧ Frag.In (hd.heap_39 w.params) s₁.heap ∧ E (.ref a) s₁) E s) : wpAny (model PW w) A (exec (.Raise (some e) none pos) env) Q E s :=
  Raise_own hh (by kernel_rfl) (by kernel_rfl) h
local macro_rules | `(tactic| walk_at "exec Raise some none") => `(tactic| (k_here; k_dflt (refine' Raise_ue ?a ?_; (case a => rfl))))
set_option maxRecDepth 100000 in
set_option maxHeartbeats 4000000 in
theorem fail0c (B : Below A₀ base outer h₀) (F : Fr h₀ L s.heap m) (X : (hd.heap_39 w.params).In h₀) (N : News h₀ L s.heap news) (T : Top hd.view_39 (looseW hd.view_39 LL) mean mg mb h₀) 
    (D : KtsDicts (outer.filterMap (·.frame)) h₀) {C x : Addr} {k : Nat} (hC : IsU C) (hU : ULed news C x k)
    (hE : ∀ e t h' G tk' vs, Fr h₀ L G m → RaisedS base G (envOf cn (SC nms more) L a ccd :: outer) e (.ref 67) t vs news h' → G.UpToSlots h' → E (.ref e) { s with heap := h', toks := tk' }) :
    codeAny (model PW w) (AT 560 gd (envOf cn (SC nms more) L a ccd) outer) (.call (.ref 130) ⟨[.ref x], []⟩) (fun r s' => match r with | .ok (.ret v) => Q v s' | .ok _ => False | .error e => E e s') s := by
  (refine' kp_both ?k1 ?k2 ?k3 ?k4 ?k5 ?kA ?kF ?kK ?k6 ?k7 ?k8 ?kV ?kX ?kQ ?kM ?kN ?kD ?kR ?kP ?kS ?kT ?kB ?_ ?c2 ?c3 ?c4 ?c5; (case kA => exact rfl); (case kF => exact rfl); (case kK => exact rfl); (case k1 => k_asm); (case k2 => k_asm); (case k3 => k_asm); (case k4 => k_asm); (case k5 => k_asm); (case k6 => k_is); (case k7 => k_is); (case k8 => k_room); (case kV => kp_lit); (case kX => kp_lit); (case kQ => exact rfl); (case kM => exact rfl); (case kN => exact rfl); (case kD => kp_flats); (case kR => exact rfl); (case kP => exact rfl); (case kS => exact fun _ => rfl); (case kT => exact fun _ _ => rfl); (case kB => exact fun _ _ => locs rfl); (case c5 => decide); (case c2 => exact rfl); (case c3 => exact rfl); (case c4 => exact rfl); k_whole)
  intro C' D' o' g' L' h' tk' l1 l2 lo' hs' fs' FG' F' N' B' X' T'
  (try dsimp only)
  (try k_fold)
  k_steps
  refine u_msg_ex ⟨rfl, by exact Nat.le_of_ble_eq_true rfl, rfl, rfl, by exact Nat.le_of_ble_eq_true rfl⟩ B' F' X' N' T' hC hU (fun p hp => List.Mem.tail _ (List.Mem.tail _ hp)) ?_
  intro h2 tk2 t2 msg F2 N2
  clear F' N'
  k_steps
  refine ue_call B' F2 X' T' N2 rfl rfl rfl (by exact Nat.le_of_ble_eq_true rfl) (by exact Nat.le_of_ble_eq_true rfl) msg t2 ?_
  intro h3 tk3 e3 t3 F3 N3 n1 n2
  obtain ⟨hx, hm, Fx, Nx⟩ := made_of_news F3 N3 n1 n2
  refine ⟨e3, _, _, rfl, (N3 _ (.head _)).1, rfl, rfl, rfl, X'.keeps F3.keep, ?_⟩
  exact leave_raiseS B' hm Fx Nx fun h' t R Rk U => hE e3 t h' _ _ _ FG' (raisedS_sub R fun p hp => .tail _ (.tail _ hp)) U
theorem fail0 (B : Below A₀ base outer h₀) (F : Fr h₀ L s.heap m) (X : (hd.heap_39 w.params).In h₀) (N : News h₀ L s.heap news) (T : Top hd.view_39 (looseW hd.view_39 LL) mean mg mb h₀) 
    (D : KtsDicts (outer.filterMap (·.frame)) h₀) {C x : Addr} {k : Nat} (hC : IsU C) (hU : ULed news C x k)
    (hE : ∀ e t h' G tk' vs, Fr h₀ L G m → RaisedS base G (envOf cn (SC nms more) L a ccd :: outer) e (.ref 67) t vs news h' → G.UpToSlots h' → E (.ref e) { s with heap := h', toks := tk' }) :
    wpAny (model PW w) (AT 560 gd (envOf cn (SC nms more) L a ccd) outer) (PySem.call (.ref 130) [.ref x]) Q E s :=
  wpAny_call (fail0c B F X N T D hC hU hE)
set_option maxRecDepth 100000 in
set_option maxHeartbeats 4000000 in
theorem fail1 (B : Below A₀ base outer h₀) (F : Fr h₀ L s.heap m) (X : (hd.heap_39 w.params).In h₀) (N : News h₀ L s.heap news) (T : Top hd.view_39 (looseW hd.view_39 LL) mean mg mb h₀) 
    (D : KtsDicts (outer.filterMap (·.frame)) h₀) {C x : Addr} {k : Nat} {v : Value} (hC : IsU C) (hU : ULed news C x k)
    (hE : ∀ e t h' G tk' vs, Fr h₀ L G m → RaisedS base G (envOf cn (SC nms more) L a ccd :: outer) e (.ref 67) t vs news h' → G.UpToSlots h' → E (.ref e) { s with heap := h', toks := tk' }) :
    wpAny (model PW w) (AT 560 gd (envOf cn (SC nms more) L a ccd) outer) (PySem.call (.ref 130) [.ref x, v]) Q E s := by
  refine wpAny_call ?_
  (refine' kp_both ?k1 ?k2 ?k3 ?k4 ?k5 ?kA ?kF ?kK ?k6 ?k7 ?k8 ?kV ?kX ?kQ ?kM ?kN ?kD ?kR ?kP ?kS ?kT ?kB ?_ ?c2 ?c3 ?c4 ?c5; (case kA => exact rfl); (case kF => exact rfl); (case kK => exact rfl); (case k1 => k_asm); (case k2 => k_asm); (case k3 => k_asm); (case k4 => k_asm); (case k5 => k_asm); (case k6 => k_is); (case k7 => k_is); (case k8 => k_room); (case kV => kp_lit); (case kX => kp_lit); (case kQ => exact rfl); (case kM => exact rfl); (case kN => exact rfl); (case kD => kp_flats); (case kR => exact rfl); (case kP => exact rfl); (case kS => exact fun _ => rfl); (case kT => exact fun _ _ => rfl); (case kB => exact fun _ _ => locs rfl); (case c5 => decide); (case c2 => exact rfl); (case c3 => exact rfl); (case c4 => exact rfl); k_whole)
  intro C' D' o' g' L' h' tk' l1 l2 lo' hs' fs' FG' F' N' B' X' T'
  (try dsimp only)
  (try k_fold)
  k_steps
  refine u_msg_ex ⟨rfl, by exact Nat.le_of_ble_eq_true rfl, rfl, rfl, by exact Nat.le_of_ble_eq_true rfl⟩ B' F' X' N' T' hC hU (fun p hp => List.Mem.tail _ (List.Mem.tail _ hp)) ?_
  intro h2 tk2 t2 msg F2 N2
  clear F' N'
  k_steps
  refine ue_call B' F2 X' T' N2 rfl rfl rfl (by exact Nat.le_of_ble_eq_true rfl) (by exact Nat.le_of_ble_eq_true rfl) msg t2 ?_
  intro h3 tk3 e3 t3 F3 N3 n1 n2
  obtain ⟨hx, hm, Fx, Nx⟩ := made_of_news F3 N3 n1 n2
  refine ⟨e3, _, _, rfl, (N3 _ (.head _)).1, rfl, rfl, rfl, X'.keeps F3.keep, ?_⟩
  exact leave_raiseS B' hm Fx Nx fun h' t R Rk U => hE e3 t h' _ _ _ FG' (raisedS_sub R fun p hp => .tail _ (.tail _ hp)) U
end
end Mine
end
section
theorem Mine.quiet_L0 : True := by
  w_top off
  trivial
open PySem PySem.W PySem.W.X PyProof.Rows PySem.Calls PyProof.V PySem.Spec
namespace Mine
section
variable {prog : Program} {w : World} {A : Around} {E : Value → Shared → Prop} {s : Shared} {env : Env} {h₀ : Heap} {x : Str} {body : List Stmt} {Q : Flow → Shared → Prop}
/-- a for over range(n) by an invariant over the turn's number, the frame's map and the ledger -/
theorem range_inv {r : Addr} {t₀ u₀ v₀ : Tok} {n : Nat} {m₀ : Str → Option Value} {news : List (Addr × Obj)} (J : Nat → (Str → Option Value) → List (Addr × Obj) → Prop)
    (hh : A.handled = none) (hr : IsRange s.heap r 0 (n : Int) 1 t₀ u₀ v₀) (hb : n < 2 ^ 20) (F : Fr h₀ env.locals s.heap m₀) (N : News h₀ env.locals s.heap news) (hj : J 0 m₀ news)
    (turn : ∀ i t m₁ nx h tk own, i < n → OwnOff own (nx.map (·.1)) → J i m₁ nx → Fr h₀ env.locals h (fun y => if y = x then some (.int (i : Int) t) else m₁ y) → News h₀ env.locals h (nx ++ own) →
      wpAny (model prog w) A (execs body env) (InvPostG h₀ env.locals (J (i + 1)) own { s with heap := h, toks := tk } Q) E { s with heap := h, toks := tk })
    (done : ∀ m₁ nx h tk, J n m₁ nx → Fr h₀ env.locals h m₁ → News h₀ env.locals h nx → Q .next { s with heap := h, toks := tk }) :
    wpAny (model prog w) A (pyIter (.ref r)) (fun it s₂ => LoopAtV prog w A h₀ env x body Q E it s₂) E s := by
  have hsmall : Builtin.Range.small 0 (n : Int) 1 = true := small_one (by omega) (by omega) (by omega) (by omega)
  have hn : Builtin.Range.rangeSize 0 (n : Int) 1 = (n : Int) := by
    have := rangeSize_nat 0 n
    simpa using this
  refine wpAny_pyIter_range hr hsmall ?_
  have W : Walks prog w A s.heap.objs.size [s.heap.objs.size] [s.heap.objs.size] n (fun i v => i < n ∧ ∃ t, v = .int (0 + i * 1) t)
      (fun i h => IsRangeIter h s.heap.objs.size (0 + (i : Nat) * 1) ((n : Int) - (i : Nat)) 1) := (Walks.range hh _ 0 1 n).bound
  refine kdr_loop J W (fun a ha => ha) (fun b hb => hb) (fun i h st b hb => ?_) ?_ ?_ ?_ (by show IsRangeIter _ _ _ _ _; rw [hn]; simpa using Heap.get?_push_size _ rfl) (F.push _) (fun p hp => ⟨Heap.get?_push_of_some _ (N p hp).1, (N p hp).2⟩) hj ?_ ?_
  · rw [List.mem_singleton.mp hb]
    exact ⟨_, st⟩
  · intro hm
    exact absurd F.ns.lt ((List.mem_singleton.mp hm) ▸ Nat.lt_irrefl _)
  · intro b hb
    rw [List.mem_singleton.mp hb]
    exact next_is_new F
  · intro p hp hI
    exact absurd (Heap.lt_size (N p hp).1) ((List.mem_singleton.mp hI) ▸ Nat.lt_irrefl _)
  · rintro i v m₁ nx h tk own hi ⟨_, t, rfl⟩ hoff hJ F₁ N₁
    have e1 : (0 : Int) + (i : Int) * 1 = (i : Int) := by omega
    rw [e1] at F₁
    exact turn i t m₁ nx h tk own hi hoff hJ F₁ N₁
  · intro m₁ nx h tk hJ F₁ N₁
    exact done m₁ nx h tk hJ F₁ N₁
/-- where the walk is to stop -/
structure Stop (p : Prop) : Prop where
  out : p
theorem For_stop {px pos : Pos} {iter : Expr} {m : Str → Option Value} (_F : Fr h₀ env.locals s.heap m) (hx : env.kindOf x = some .local)
    (hp : (env.scope.kind == .class || (env.scope.kind == .module && env.locals != env.globals)) = false)
    (h : wpAny (model prog w) A (eval iter env) (fun xv s₁ => Stop (wpAny (model prog w) A (pyIter xv) (fun it s₂ => LoopAtV prog w A h₀ env x body Q E it s₂) E s₁)) E s)
    (hs : ∀ x, foldedSetIterable iter env x = pure x := by intro _; rfl)
    (hE : PassesOwn (model prog w) A env E := by passes_own) :
    wpAny (model prog w) A (exec (.For (.Name x px) iter body [] pos) env) Q E s :=
  For_invV h₀ hx hp (wpAny_mono h (fun _ _ z => z.out) fun _ _ z => z) hs hE
end
end Mine
end
section
theorem Mine.quiet_L1 : True := by
  w_top off
  trivial
open PySem PySem.W PySem.W.X PyProof.Rows PySem.Calls PyProof.V PySem.Spec
namespace Mine
def sumTo (x : Str) : Nat → Nat
  | 0 => 0
  | i + 1 => sumTo x i + (i + 1) * (Txt.item x (i : Int)).cps.getD 0 0
def lawNum (x : Str) : Int := ((7 * x.length + sumTo x x.length : Nat) : Int).fmod 997
section
variable {w : World} {mean : ExcName → Option Value} {mg mb : Str → Option Value} {gd : Option (List Code)} {cn : Str} {nms : List (Str × NameKind)} {more : List (Str × Const)} {a : Addr} {ccd : Value} {outer : List Env} {A₀ : Around} {base h₀ : Heap} {L : Addr} {m : Str → Option Value} {news : List (Addr × Obj)} {s : Shared} {Q E : Value → Shared → Prop}
theorem fr_known {n : Str} {v : Value} {h : Heap} (F : Fr h₀ L h m) (e : m n = some v) : Fr h₀ L h (fun y => if y = n then some v else m y) := by
  have : (fun y => if y = n then some v else m y) = m := by
    funext y
    by_cases q : y = n
    · rw [if_pos q, q, e]
    · rw [if_neg q]
  rw [this]
  exact F
local macro_rules | `(tactic| walk_at "exec For Name Call cons nil") => `(tactic| (k_here; (rename Fr _ _ _ _ => lF'); (with_unfolding_all refine' For_stop lF' ?k1 ?k2 ?_; (case k1 => exact rfl); (case k2 => exact rfl); k_whole)))
set_option maxRecDepth 100000 in
set_option maxHeartbeats 4000000 in
theorem number_call (B : Below A₀ base outer h₀) (F : Fr h₀ L s.heap m) (X : (hd.heap_39 w.params).In h₀) (N : News h₀ L s.heap news) (T : Top hd.view_39 (looseW hd.view_39 LL) mean mg mb h₀) 
    {x : Str} {t0 : Tok} (hx : x.length ≤ 100)
    (hQ : ∀ h' tk t, Fr h₀ L h' m → News h₀ L h' news → Q (.int (lawNum x) t) { s with heap := h', toks := tk }) :
    wpAny (model PW w) (AT 560 gd (envOf cn (SC nms more) L a ccd) outer) (PySem.call (.ref 287) [.str x t0]) Q E s := by
  refine wpAny_call ?_
  k_enter
  k_steps
  rename_i hr F1 N1 K1
  refine ⟨?_⟩
  refine range_inv (J := fun i m' nx => nx = news ∧ (∃ t, m' (Str.ofString "out") = some (.int (7 * x.length + sumTo x i : Int) t)) ∧ m' (Str.ofString "text") = some (.str x t0)) rfl hr (by omega) F1 N1 ?start ?turn ?done
  case start =>
    refine ⟨rfl, ?_, by rfl⟩
    simp only [if_true]
    exact ⟨_, congrArg (fun z => some (Value.int z _)) (by simp [sumTo])⟩
  case turn =>
    rintro i t m₁ nx h tk own hi hoff ⟨rfl, ⟨t1, e1⟩, e2⟩ F₁ N₁
    have F₂ := fr_known (fr_known F₁ (n := Str.ofString "out") (by rw [if_neg (by decide)]; exact e1)) (n := Str.ofString "text") (by rw [if_neg (by decide), if_neg (by decide)]; exact e2)
    clear F₁ F1
    k_steps
    rename_i h5 tk5 F5 N5
    refine InvEndG.intro F5 N5 ?_ hoff (fun p hp => List.mem_append.mpr (.inl hp)) (fun p hp => List.mem_append.mpr (.inr hp))
    refine ⟨rfl, ?_, by rfl⟩
    simp only [if_true]
    refine ⟨_, congrArg (fun z => some (Value.int z _)) ?_⟩
    simp only [sumTo, Int.natCast_add, Int.natCast_mul, Int.natCast_one, Int.add_assoc]
  case done =>
    rintro m₁ nx h tk ⟨rfl, ⟨t1, e1⟩, e2⟩ F₁ N₁
    have F₂ := fr_known F₁ e1
    clear F₁ F1
    (try dsimp only)
    k_steps
    rename_i Fk Nk Tk Xk
    exact hQ _ _ _ Fk Nk
end
end Mine
end
section
theorem Mine.quiet_O0 : True := by
  w_top off
  trivial
open PySem PySem.W PySem.W.X PyProof.Rows PySem.Calls PyProof.V PySem.Spec
namespace Mine
/-- a value of the machine: a number, or an undefined value made in the way k -/
inductive AV
  | num (i : Int)
  | lost (k : Nat)
/-- the class of a kind -/
def cOf : Nat → Addr
  | 0 => 197
  | 1 => 229
  | 2 => 250
  | _ => 264
theorem isU_cOf (κ : Nat) : IsU (cOf κ) := by
  unfold IsU cOf
  split <;> decide
theorem isU0 : IsU 197 := Or.inl rfl
theorem isU1 : IsU 229 := Or.inr (Or.inl rfl)
theorem isU2 : IsU 250 := Or.inr (Or.inr (Or.inl rfl))
theorem isU3 : IsU 264 := Or.inr (Or.inr (Or.inr rfl))
def twoOf (κ what : Nat) : AV → AV → Option Int
  | .num a, .num b => some (match what with
    | 0 => (a + b).fmod 1000
    | 1 => (a - b).fmod 1000
    | 2 => (a * b).fmod 1000
    | 3 => if a < b then 1 else 0
    | 4 => if a = b then 1 else 0
    | _ => if a ≠ b then 1 else 0)
  | .lost _, .lost _ => if κ = 3 ∨ what < 4 then none else some (if what = 4 then 1 else 0)
  | _, _ => if κ = 3 ∨ what < 4 then none else some (if what = 4 then 0 else 1)
theorem ULed.data {news : List (Addr × Obj)} {C x : Addr} {k : Nat} (h : ULed news C x k) : ∃ d n sl, (x, (⟨.ref C, some d, .plain, sl⟩ : Obj)) ∈ news ∧ (d, (dictOf [] n : Obj)) ∈ news := by
  cases h with
  | w0 a b => exact ⟨_, _, _, a, b⟩
  | w1 a b c => exact ⟨_, _, _, a, b⟩
  | w2 a b => exact ⟨_, _, _, a, b⟩
section
variable {w : World} {mean : ExcName → Option Value} {mg mb : Str → Option Value} {gd : Option (List Code)} {cn : Str} {nms : List (Str × NameKind)} {more : List (Str × Const)} {a : Addr} {ccd : Value} {outer : List Env} {A₀ : Around} {base h₀ : Heap} {L : Addr} {m : Str → Option Value} {news : List (Addr × Obj)} {s : Shared} {Q E : Value → Shared → Prop}
theorem dict_push {g : Heap} (F : Fr h₀ L g m) (D : KtsDicts (outer.filterMap (·.frame)) h₀) : KtsDicts ((envOf cn (SC nms more) L a ccd :: outer).filterMap (·.frame)) g := by
  intro b hb
  rcases kts_mem hb with z | z
  · obtain ⟨o, es, n, hL, r⟩ := F.ns
    exact ⟨o, es, n, z ▸ hL, r.1⟩
  · obtain ⟨o, es, n, ho, r⟩ := D b z
    exact ⟨o, es, n, F.keep _ _ ho, r⟩
theorem fail0_at {A : Around} {C x : Addr} {k : Nat} {news' : List (Addr × Obj)} (hA : A.handled = none ∧ A.depth ≤ 560 ∧ A.frames = some (envOf cn (SC nms more) L a ccd :: outer) ∧ A.guards = gd ∧ A.units ≤ 1120)
    (B : Below A₀ base outer h₀) (F : Fr h₀ L s.heap m) (X : (hd.heap_39 w.params).In h₀) (T : Top hd.view_39 (looseW hd.view_39 LL) mean mg mb h₀) (D : KtsDicts (outer.filterMap (·.frame)) h₀) (hU : ULed news C x k) (hC : IsU C) (N : News h₀ L s.heap news') (hs : ∀ p ∈ news, p ∈ news')
    (hE : ∀ e t h' G tk' vs, Fr h₀ L G m → RaisedS base G (envOf cn (SC nms more) L a ccd :: outer) e (.ref 67) t vs news h' → G.UpToSlots h' → E (.ref e) { s with heap := h', toks := tk' }) :
    wpAny (model PW w) A (PySem.call (.ref 130) [.ref x]) Q E s := by
  obtain ⟨a1, a2, a3, a4, a5⟩ := hA
  exact wpAny_le (fail0 B F X N T D hC (hU.mono hs) fun e t h' G tk' vs FG R U => hE e t h' G tk' vs FG (raisedS_sub R hs) U) a1 (by show A.depth ≤ 560; omega) a3 a4 (by show A.units ≤ 2 * 560; omega)
theorem fail0c_at {A : Around} {C x : Addr} {k : Nat} {news' : List (Addr × Obj)} {R : Result → Shared → Prop} (hA : A.handled = none ∧ A.depth ≤ 560 ∧ A.frames = some (envOf cn (SC nms more) L a ccd :: outer) ∧ A.guards = gd ∧ A.units ≤ 1120)
    (B : Below A₀ base outer h₀) (F : Fr h₀ L s.heap m) (X : (hd.heap_39 w.params).In h₀) (T : Top hd.view_39 (looseW hd.view_39 LL) mean mg mb h₀) (D : KtsDicts (outer.filterMap (·.frame)) h₀) (hU : ULed news C x k) (hC : IsU C) (N : News h₀ L s.heap news') (hs : ∀ p ∈ news, p ∈ news')
    (hE : ∀ e t h' G tk' vs, Fr h₀ L G m → RaisedS base G (envOf cn (SC nms more) L a ccd :: outer) e (.ref 67) t vs news h' → G.UpToSlots h' → R (.error (.ref e)) { s with heap := h', toks := tk' }) :
    codeAny (model PW w) A (.call (.ref 130) ⟨[.ref x], []⟩) R s := by
  obtain ⟨a1, a2, a3, a4, a5⟩ := hA
  refine codeAny_mono (codeAny_le (fail0c (Q := fun v s' => R (.ok (.ret v)) s') (E := fun v s' => R (.error v) s') B F X N T D hC (hU.mono hs) fun e t h' G tk' vs FG R' U => hE e t h' G tk' vs FG (raisedS_sub R' hs) U) a1 (by show A.depth ≤ 560; omega) a3 a4 (by show A.units ≤ 2 * 560; omega)) ?_
  intro r s' z
  rcases r with e | (_ | _ | _ | _)
  all_goals first | exact z | exact z.elim
theorem fail1_at {A : Around} {C x : Addr} {k : Nat} {v : Value} {news' : List (Addr × Obj)} (hA : A.handled = none ∧ A.depth ≤ 560 ∧ A.frames = some (envOf cn (SC nms more) L a ccd :: outer) ∧ A.guards = gd ∧ A.units ≤ 1120)
    (B : Below A₀ base outer h₀) (F : Fr h₀ L s.heap m) (X : (hd.heap_39 w.params).In h₀) (T : Top hd.view_39 (looseW hd.view_39 LL) mean mg mb h₀) (D : KtsDicts (outer.filterMap (·.frame)) h₀) (hU : ULed news C x k) (hC : IsU C) (N : News h₀ L s.heap news') (hs : ∀ p ∈ news, p ∈ news')
    (hE : ∀ e t h' G tk' vs, Fr h₀ L G m → RaisedS base G (envOf cn (SC nms more) L a ccd :: outer) e (.ref 67) t vs news h' → G.UpToSlots h' → E (.ref e) { s with heap := h', toks := tk' }) :
    wpAny (model PW w) A (PySem.call (.ref 130) [.ref x, v]) Q E s := by
  obtain ⟨a1, a2, a3, a4, a5⟩ := hA
  exact wpAny_le (fail1 B F X N T D hC (hU.mono hs) fun e t h' G tk' vs FG R U => hE e t h' G tk' vs FG (raisedS_sub R hs) U) a1 (by show A.depth ≤ 560; omega) a3 a4 (by show A.units ≤ 2 * 560; omega)
end
end Mine
end
section
theorem Mine.quiet_B1 : True := by
  w_top off
  trivial
open PySem PySem.W PySem.W.X PyProof.Rows PySem.Calls PyProof.V PySem.Spec
namespace Mine
section
variable (b : Int) (u : Tok) (l : Addr) (c : Value) (dd : Option Addr) (sl : Array (Option Value))
theorem dec_add : Meets (Builtin.«int.__add__» ⟨[.int b u, .ref l], []⟩) (fun _ R s => s.heap.get? l = some { cls := c, dict := dd, data := .plain, slots := sl } ∧ R (.ok (.ret .notImplemented)) s) :=
  .of_wp fun prog w A R s h => by obtain ⟨hp, g, d, tk, os⟩ := s; obtain ⟨hl, h⟩ := h; wp_walk using wpAny_loadPart' hl, wpAny_load hl; exact ⟨_, rfl, h⟩
theorem dec_sub : Meets (Builtin.«int.__sub__» ⟨[.int b u, .ref l], []⟩) (fun _ R s => s.heap.get? l = some { cls := c, dict := dd, data := .plain, slots := sl } ∧ R (.ok (.ret .notImplemented)) s) :=
  .of_wp fun prog w A R s h => by obtain ⟨hp, g, d, tk, os⟩ := s; obtain ⟨hl, h⟩ := h; wp_walk using wpAny_loadPart' hl, wpAny_load hl; exact ⟨_, rfl, h⟩
theorem dec_mul : Meets (Builtin.«int.__mul__» ⟨[.int b u, .ref l], []⟩) (fun _ R s => s.heap.get? l = some { cls := c, dict := dd, data := .plain, slots := sl } ∧ R (.ok (.ret .notImplemented)) s) :=
  .of_wp fun prog w A R s h => by obtain ⟨hp, g, d, tk, os⟩ := s; obtain ⟨hl, h⟩ := h; wp_walk using wpAny_loadPart' hl, wpAny_load hl; exact ⟨_, rfl, h⟩
theorem dec_lt : Meets (Builtin.«int.__lt__» ⟨[.int b u, .ref l], []⟩) (fun _ R s => s.heap.get? l = some { cls := c, dict := dd, data := .plain, slots := sl } ∧ R (.ok (.ret .notImplemented)) s) :=
  .of_wp fun prog w A R s h => by obtain ⟨hp, g, d, tk, os⟩ := s; obtain ⟨hl, h⟩ := h; wp_walk using wpAny_loadPart' hl, wpAny_load hl; exact ⟨_, rfl, h⟩
theorem dec_eq : Meets (Builtin.«int.__eq__» ⟨[.int b u, .ref l], []⟩) (fun _ R s => s.heap.get? l = some { cls := c, dict := dd, data := .plain, slots := sl } ∧ R (.ok (.ret .notImplemented)) s) :=
  .of_wp fun prog w A R s h => by obtain ⟨hp, g, d, tk, os⟩ := s; obtain ⟨hl, h⟩ := h; wp_walk using wpAny_loadPart' hl, wpAny_load hl; exact ⟨_, rfl, h⟩
theorem dec_ne : Meets (Builtin.«int.__ne__» ⟨[.int b u, .ref l], []⟩) (fun _ R s => s.heap.get? l = some { cls := c, dict := dd, data := .plain, slots := sl } ∧ R (.ok (.ret .notImplemented)) s) :=
  .of_wp fun prog w A R s h => by obtain ⟨hp, g, d, tk, os⟩ := s; obtain ⟨hl, h⟩ := h; wp_walk using wpAny_loadPart' hl, wpAny_load hl; exact ⟨_, rfl, h⟩
end
section
variable {prog : Program} {w : World} {A : Around} {E : Value → Shared → Prop} {s : Shared} {K : Frag} {y C L f f' : Addr} {h₀ : Heap} {m : Str → Option Value} {oy : Obj} {od : Option Obj} {i : Int} {t : Tok}
theorem tryMethod_declines {self other : Value} {T : String} {name : Str} {id : String} {Q : Option Value → Shared → Prop} (hT : s.TypeIs self T)
    (h : Slot T name id) (hc : wpAny (model prog w) A (call (.builtin id) [self, other]) (fun v s' => v = .notImplemented ∧ Q none s') E s) :
    wpAny (model prog w) A (tryMethod self name other) Q E s := by
  simp only [tryMethod]
  refine wpAny_bind (wpAny_callSpecial?_slot hT h (wpAny_mono hc (fun v s' h' => ?_) fun _ _ h' => h'))
  obtain ⟨rfl, hq⟩ := h'
  exact wpAny_pure hq
theorem rbin {op : Operator} {Bi : Builtin} {id : String} {Q : Value → Shared → Prop} (F : Fr h₀ L s.heap m) (X₀ : K.In h₀) (I : InstAt s.heap y oy C od) (hp : oy.data = .plain)
    (fills : fillsNumberSlot (.type "int") op.info.2 = pure true) (slot : Slot "int" (PySem.dunder op.info.2) id) (entry : entryFor table id = some Bi) (args : argsOk id ⟨[.int i t, .ref y], []⟩)
    (dec : ∀ c dd sl, Meets (Bi ⟨[.int i t, .ref y], []⟩) (fun _ R s => s.heap.get? y = some { cls := c, dict := dd, data := .plain, slots := sl } ∧ R (.ok (.ret .notImplemented)) s))
    (hc : selfFirst K C = true) (hs : findIn K (.ref C) (PySem.dunder op.info.2) = some (some (.ref f'))) (hr : findIn K (.ref C) (dunderR op.info.2) = some (some (.ref f))) (hf : isFn K (.ref f) = true) (hsub : subIn K (.ref C) (.type "int") = some false)
    (h : wpAny (model prog w) A (call (.ref f) [.ref y, .int i t]) (PySem.W.CmpBack Q) E s) : wpAny (model prog w) A (binaryOp op (.int i t) (.ref y)) Q E s := by
  have X := X₀.keeps F.keep
  obtain ⟨cd, rest, hcd, hm⟩ := ksp_first hc
  rcases hi : op.info with ⟨sym, nm'⟩
  rw [hi] at hs hr fills slot
  dsimp only at hs hr fills slot
  have two := ksp_try X I hr hf h
  have hT : s.TypeIs (.int i t) "int" := rfl
  have one : ∀ {Q' : Option Value → Shared → Prop}, Q' none s → wpAny (model prog w) A (tryMethod (.int i t) (PySem.dunder nm') (.ref y)) Q' E s := by
    intro Q' hq
    have hg := I.at_
    obtain ⟨c, dd, da, sl⟩ := oy
    cases hp
    exact tryMethod_declines hT slot (call_meets slot hT entry args (dec _ _ _) ⟨hg, rfl, hq⟩)
  obtain ⟨hh, g, d, tt, os⟩ := s
  have L1 : Looks (model prog w) hh (typeOf (.ref y)) (.ref C) := I.type
  have L2 : Looks (model prog w) hh (typeOf (.int i t)) (.type "int") := Looks.of_pure rfl
  have L3 : Looks (model prog w) hh (fillsNumberSlot (.ref C) nm') true := fills_K X hcd hm hs
  have L4 : Looks (model prog w) hh (fillsNumberSlot (.type "int") nm') true := Looks.of_pure fills
  have L5 : Looks (model prog w) hh (isSubtype (.ref C) (.type "int")) false := looks_subIn X hsub
  have L7 : Looks (model prog w) hh (numberSlotInPython (.type "int") nm') false := Looks.of_pure rfl
  have hne : (Value.type "int" == Value.ref C) = false := Bool.eq_false_iff.mpr fun q => by cases beq_iff_eq.mp q
  simp only [binaryOp, hi]
  refine wpAny_holding (wpAny_bind ?_)
  unfold binaryOp1
  refine wpAny_bind (L2.at (wpAny_bind (L1.at (wpAny_bind (L4.at ?_)))))
  simp only [hne, Bool.false_eq_true, if_false]
  ksp_lk
  refine one ?_
  ksp_lk
  refine wpAny_mono two (fun r s' hr' => ?_) fun _ _ e => e
  obtain ⟨v, rfl, hq⟩ := hr'
  ksp_lk
  exact hq
theorem rcmp {op : CmpOp} {Bi : Builtin} {id : String} {Q : Value → Shared → Prop} (hu : A.units < cLine) (F : Fr h₀ L s.heap m) (X₀ : K.In h₀) (I : InstAt s.heap y oy C od) (hp : oy.data = .plain)
    (slot : Slot "int" (cmpInfo op).2.1 id) (entry : entryFor table id = some Bi) (args : argsOk id ⟨[.int i t, .ref y], []⟩)
    (dec : ∀ c dd sl, Meets (Bi ⟨[.int i t, .ref y], []⟩) (fun _ R s => s.heap.get? y = some { cls := c, dict := dd, data := .plain, slots := sl } ∧ R (.ok (.ret .notImplemented)) s))
    (hr : findIn K (.ref C) (cmpInfo op).2.2 = some (some (.ref f))) (hf : isFn K (.ref f) = true) (hsub : subIn K (.ref C) (.type "int") = some false)
    (h : wpAny (model prog w) A (call (.ref f) [.ref y, .int i t]) (PySem.W.CmpBack Q) E s) (hop : compareOp op (.int i t) (.ref y) = richCompare op (.int i t) (.ref y)) : wpAny (model prog w) A (compareOp op (.int i t) (.ref y)) Q E s := by
  rw [hop]
  have X := X₀.keeps F.keep
  have hT : s.TypeIs (.int i t) "int" := rfl
  have two : wpAny (model prog w) A (tryCompare (.ref y) (cmpInfo op).2.2 (.int i t)) (fun r s' => ∃ v, r = some v ∧ Q v s') E s := by
    unfold tryCompare
    refine wpAny_bind (ifBound_K X I hr hf (wpAny_mono h (fun v s' hv => ?_) fun _ _ e => e))
    cases v <;> first | exact hv.elim | exact wpAny_pure ⟨_, rfl, hv⟩
  have one : ∀ {Q' : Option Value → Shared → Prop}, Q' none s → wpAny (model prog w) A (tryCompare (.int i t) (cmpInfo op).2.1 (.ref y)) Q' E s := by
    intro Q' hq
    have hg := I.at_
    obtain ⟨c, dd, da, sl⟩ := oy
    cases hp
    exact wpAny_tryCompare_declines hT slot (call_meets slot hT entry args (dec _ _ _) ⟨hg, rfl, hq⟩)
  unfold richCompare
  simp only [hT.oneThing_none]
  refine wpAny_holding (wpAny_bind (wpAny_cRoomFor hu ?_))
  refine wpAny_bind (wpAny_typeOf hT (wpAny_bind (I.type.here ?_)))
  rw [if_pos (show (Value.type "int" != Value.ref C) = true from by simp)]
  refine wpAny_bind ((looks_subIn X hsub).here ?_)
  simp only [Bool.false_eq_true, if_false]
  refine wpAny_bind (one ?_)
  dsimp only
  simp only [Bool.not_false, if_true]
  refine wpAny_bind (wpAny_mono two (fun r s' z => ?_) fun _ _ e => e)
  obtain ⟨v, rfl, hq⟩ := z
  exact wpAny_pure hq
end
end Mine
end
section
theorem Mine.quiet_B2 : True := by
  w_top off
  trivial
open PySem PySem.W PySem.W.X PyProof.Rows PySem.Calls PyProof.V PySem.Spec
namespace Mine
section
variable {prog : Program} {w : World} {A : Around} {E : Value → Shared → Prop} {s : Shared} {K : Frag} {x C p : Addr} {ox : Obj} {od : Option Obj} {name : Str} {expr : Bool} {Q : Value → Shared → Prop}
theorem own_empty {cd : ClassData} {n : Nat} : PySem.W.ownOf cd (some (dictOf [] n)) name = some none := by
  unfold PySem.W.ownOf
  split
  · rfl
  · rfl
theorem findObj_miss {n : Nat} (hc : isClsIn K C = true) (ha : findIn K (.ref C) name = some none) (hn : copiedNames.contains name = false) : findObj K C (some (dictOf [] n)) name = some .missing := by
  obtain ⟨cd, hc⟩ := Option.isSome_iff_exists.mp hc
  unfold findObj
  rw [hc, Option.bind_some, ha, Option.bind_some]
  simp only [Option.bind_some, own_empty, hn, Bool.false_and, Bool.false_eq_true, if_false]
theorem findObj_fn {n : Nat} {a g : Value} (hc : isClsIn K C = true) (ha : findIn K (.ref C) name = some (some a)) (hg : specialIn K a "__get__" = some (some g)) (ht : takesIn K a = some false) (hn : copiedNames.contains name = false) : findObj K C (some (dictOf [] n)) name = some (.bind g a) := by
  obtain ⟨cd, hc⟩ := Option.isSome_iff_exists.mp hc
  unfold findObj
  rw [hc, Option.bind_some, ha, Option.bind_some]
  simp only [Option.bind_some, hg, ht, own_empty, hn, Bool.false_and, Bool.false_eq_true, if_false]
open Builtin Builtin.ObjectAttr in
/-- a name that the class does not know goes to its own __getattr__ -/
theorem get_hook (X : K.In s.heap) (I : InstAt s.heap x ox C od) (hga : findIn K (.ref C) "__getattribute__" = some (some (.builtin "object.__getattribute__")))
    (hf : findObj K C od name = some .missing) (hk : findIn K (.ref C) "__getattr__" = some (some (.ref p))) (hp : isFn K (.ref p) = true)
    (h : wpAny (model prog w) A.in1 (call (.ref p) [.ref x, .str name s.toks]) (fun v s' => wpAny (model prog w) A (handedOut v) Q E s')
      (fun e s' => wpAny (model prog w) A (noteIf true (.ref x) (.str name s.toks) e) (fun _ s'' => E e s'') E s') { s with toks := s.toks + 1 }) :
    wpAny (model prog w) A (getAttr (.ref x) name expr) Q E s := by
  refine get_open X I hga ?_
  obtain ⟨hh', gg, d, t, os⟩ := s
  have L0 := I.type (M := model prog w)
  have L1 := looks_find (M := model prog w) X I hf
  have L2 := looks_findIn (M := model prog w) X hk
  refine wpAny_bind (wpAny_pure (wpAny_bind (L0.at (wpAny_bind (L1.at (wpAny_bind (L2.at ?_)))))))
  show wpAny _ _ (missingOrHook _ _ _ _) _ _ _
  unfold missingOrHook byHook
  dsimp only
  have L3 := bind_fn (M := model prog w) X (.ref x) (beq_iff_eq.mp hp)
  refine wpAny_bind (L3.at ?_)
  exact wpAny_bind (wpAny_mono h (fun v s' z => wpAny_bind (wpAny_rule (wpAny_pure z))) fun _ _ z => z)
/-- a def of the class, bound, where the class has a __getattr__ of its own -/
theorem getm_bindH {hook : Value} {pl : Sem Bool} {Q : Value × List Value → Shared → Prop} (X : K.In s.heap) (I : InstAt s.heap x ox C od) (hga : findIn K (.ref C) "__getattribute__" = some (some (.builtin "object.__getattribute__")))
    (hf : findObj K C od name = some (.bind (.builtin "function.__get__") (.ref p))) (hk : findIn K (.ref C) "__getattr__" = some (some hook)) (hp : typeIn K (.ref p) = some (.type "function"))
    (h : Q (.ref s.heap.objs.size, []) { s with heap := s.heap.push (methodObj (.ref p) (.ref x)), toks := s.toks + 1 }) : wpAny (model prog w) A (getMethod (.ref x) name pl) Q E s := by
  refine method_hook X I hga hk ?_
  refine get_bindH X I hga hf hk ?_
  refine wpAny_call (fn_get (s := { s with toks := s.toks + 1 }) X hp ?_)
  show wpAny _ _ (handedOut _) _ _ _
  rw [handedOut_of (by rfl)]
  exact wpAny_pure h
theorem noteIf_quiet {base G : Heap} {l : List Env} {e t c : Addr} {vs : List Value} {news : List (Addr × Obj)} {o n : Value} {Q : Unit → Shared → Prop} (XB : K.In base) (R : RaisedS base G l e (.ref c) t vs news s.heap)
    (hm : mroIn K c (.type "AttributeError") = some false) (h : Q () s) : wpAny (model prog w) A (noteIf true o n (.ref e)) Q E s := by
  obtain ⟨⟨B, hB, hBG, hl, hfl, hnew⟩, htup⟩ := R
  obtain ⟨ob, hob, hc⟩ := hfl.there
  have X : K.In s.heap := (XB.keeps hB).keeps hfl.1
  show wpAny _ _ (noteAttr (.ref e) _ _) _ _ _
  unfold noteAttr lacksNameAndObj isInstance
  have L0 : Looks (model prog w) s.heap (typeOf (.ref e)) (.ref c) := hc ▸ (Looks.ld hob).andThen .now
  dsimp only
  refine wpAny_bind (wpAny_bind (wpAny_bind (L0.here ?_)))
  refine (looks_mroIn X hm).here ?_
  simp only [Bool.not_false, if_true]
  refine wpAny_pure ?_
  simp only [Bool.false_eq_true, if_false]
  exact wpAny_pure h
end
end Mine
end
section
theorem Mine.quiet_N1 : True := by
  w_top off
  trivial
open PySem PySem.W PySem.W.X PyProof.Rows PySem.Calls PyProof.V PySem.Spec
namespace Mine
local macro_rules | `(tactic| x_close) => `(tactic| (refine Left.mk (by assumption) ?_; exact rfl))
set_option maxRecDepth 100000 in
set_option maxHeartbeats 8000000 in
theorem ne_i_197 {w : World} {s : Shared} {A : Around} (X : Frag.In (hd.heap_39 w.params) s.heap) {E : Value → Shared → Prop} {t2 : Tok} {j : Int} {x d : Addr} {sl : Array (Option Value)} (hx : s.heap.get? x = some ⟨.ref 197, some d, .plain, sl⟩) :
  wpAny (model PySem.Challenge.pw_co0007_01 w) (wide A) (PySem.call (.ref 151) [.ref x, .int j t2]) (Left s fun v _ => v = .bool true) E s := by
  x_run
set_option maxRecDepth 100000 in
set_option maxHeartbeats 8000000 in
theorem ne_u_197 {w : World} {s : Shared} {A : Around} (X : Frag.In (hd.heap_39 w.params) s.heap) {E : Value → Shared → Prop} {x d y d2 : Addr} {sl sl2 : Array (Option Value)} (hx : s.heap.get? x = some ⟨.ref 197, some d, .plain, sl⟩) (hy : s.heap.get? y = some ⟨.ref 197, some d2, .plain, sl2⟩) :
  wpAny (model PySem.Challenge.pw_co0007_01 w) (wide A) (PySem.call (.ref 151) [.ref x, .ref y]) (Left s fun v _ => v = .bool false) E s := by
  x_run
set_option maxRecDepth 100000 in
set_option maxHeartbeats 8000000 in
theorem ne_i_229 {w : World} {s : Shared} {A : Around} (X : Frag.In (hd.heap_39 w.params) s.heap) {E : Value → Shared → Prop} {t2 : Tok} {j : Int} {x d : Addr} {sl : Array (Option Value)} (hx : s.heap.get? x = some ⟨.ref 229, some d, .plain, sl⟩) :
  wpAny (model PySem.Challenge.pw_co0007_01 w) (wide A) (PySem.call (.ref 151) [.ref x, .int j t2]) (Left s fun v _ => v = .bool true) E s := by
  x_run
set_option maxRecDepth 100000 in
set_option maxHeartbeats 8000000 in
theorem ne_u_229 {w : World} {s : Shared} {A : Around} (X : Frag.In (hd.heap_39 w.params) s.heap) {E : Value → Shared → Prop} {x d y d2 : Addr} {sl sl2 : Array (Option Value)} (hx : s.heap.get? x = some ⟨.ref 229, some d, .plain, sl⟩) (hy : s.heap.get? y = some ⟨.ref 229, some d2, .plain, sl2⟩) :
  wpAny (model PySem.Challenge.pw_co0007_01 w) (wide A) (PySem.call (.ref 151) [.ref x, .ref y]) (Left s fun v _ => v = .bool false) E s := by
  x_run
set_option maxRecDepth 100000 in
set_option maxHeartbeats 8000000 in
theorem ne_i_250 {w : World} {s : Shared} {A : Around} (X : Frag.In (hd.heap_39 w.params) s.heap) {E : Value → Shared → Prop} {t2 : Tok} {j : Int} {x d : Addr} {sl : Array (Option Value)} (hx : s.heap.get? x = some ⟨.ref 250, some d, .plain, sl⟩) :
  wpAny (model PySem.Challenge.pw_co0007_01 w) (wide A) (PySem.call (.ref 151) [.ref x, .int j t2]) (Left s fun v _ => v = .bool true) E s := by
  x_run
set_option maxRecDepth 100000 in
set_option maxHeartbeats 8000000 in
theorem ne_u_250 {w : World} {s : Shared} {A : Around} (X : Frag.In (hd.heap_39 w.params) s.heap) {E : Value → Shared → Prop} {x d y d2 : Addr} {sl sl2 : Array (Option Value)} (hx : s.heap.get? x = some ⟨.ref 250, some d, .plain, sl⟩) (hy : s.heap.get? y = some ⟨.ref 250, some d2, .plain, sl2⟩) :
  wpAny (model PySem.Challenge.pw_co0007_01 w) (wide A) (PySem.call (.ref 151) [.ref x, .ref y]) (Left s fun v _ => v = .bool false) E s := by
  x_run
end Mine
end
section
theorem Mine.quiet_N2 : True := by
  w_top off
  trivial
open PySem PySem.W PySem.W.X PyProof.Rows PySem.Calls PyProof.V PySem.Spec
namespace Mine
section
variable {w : World} {mean : ExcName → Option Value} {mg mb : Str → Option Value} {gd : Option (List Code)} {cn : Str} {nms : List (Str × NameKind)} {more : List (Str × Const)} {a : Addr} {ccd : Value} {outer : List Env} {A₀ : Around} {base h₀ : Heap} {L : Addr} {m : Str → Option Value} {news : List (Addr × Obj)} {s : Shared} {Q E : Value → Shared → Prop}
theorem ne_at_i_197 {A : Around} {t2 : Tok} {j : Int} {x d : Addr} {sl : Array (Option Value)} (hd1 : A.depth ≤ 600) (hu : A.units ≤ 1500) (F : Fr h₀ L s.heap m) (X : (hd.heap_39 w.params).In h₀) (N : News h₀ L s.heap news) (hx : (x, (⟨.ref 197, some d, .plain, sl⟩ : Obj)) ∈ news)
    (h : ∀ h' tk, Fr h₀ L h' m → News h₀ L h' news → Q (.bool true) { s with heap := h', toks := tk }) : wpAny (model PW w) A (PySem.call (.ref 151) [.ref x, .int j t2]) Q E s := by
  refine wpAny_wide hd1 hu (wpAny_mono (ne_i_197 (X.keeps F.keep) (N _ hx).1) ?_ fun _ _ z => z)
  rintro v s' ⟨h', tk, mn, rfl, D, rfl⟩
  exact h h' tk (fr_mem F D) fun p hp => news_mem F N D p (List.mem_append_right _ hp)
theorem ne_at_u_197 {A : Around} {x d y d2 : Addr} {sl sl2 : Array (Option Value)} (hd1 : A.depth ≤ 600) (hu : A.units ≤ 1500) (F : Fr h₀ L s.heap m) (X : (hd.heap_39 w.params).In h₀) (N : News h₀ L s.heap news) (hx : (x, (⟨.ref 197, some d, .plain, sl⟩ : Obj)) ∈ news) (hy : (y, (⟨.ref 197, some d2, .plain, sl2⟩ : Obj)) ∈ news)
    (h : ∀ h' tk, Fr h₀ L h' m → News h₀ L h' news → Q (.bool false) { s with heap := h', toks := tk }) : wpAny (model PW w) A (PySem.call (.ref 151) [.ref x, .ref y]) Q E s := by
  refine wpAny_wide hd1 hu (wpAny_mono (ne_u_197 (X.keeps F.keep) (N _ hx).1 (N _ hy).1) ?_ fun _ _ z => z)
  rintro v s' ⟨h', tk, mn, rfl, D, rfl⟩
  exact h h' tk (fr_mem F D) fun p hp => news_mem F N D p (List.mem_append_right _ hp)
theorem ne_at_i_229 {A : Around} {t2 : Tok} {j : Int} {x d : Addr} {sl : Array (Option Value)} (hd1 : A.depth ≤ 600) (hu : A.units ≤ 1500) (F : Fr h₀ L s.heap m) (X : (hd.heap_39 w.params).In h₀) (N : News h₀ L s.heap news) (hx : (x, (⟨.ref 229, some d, .plain, sl⟩ : Obj)) ∈ news)
    (h : ∀ h' tk, Fr h₀ L h' m → News h₀ L h' news → Q (.bool true) { s with heap := h', toks := tk }) : wpAny (model PW w) A (PySem.call (.ref 151) [.ref x, .int j t2]) Q E s := by
  refine wpAny_wide hd1 hu (wpAny_mono (ne_i_229 (X.keeps F.keep) (N _ hx).1) ?_ fun _ _ z => z)
  rintro v s' ⟨h', tk, mn, rfl, D, rfl⟩
  exact h h' tk (fr_mem F D) fun p hp => news_mem F N D p (List.mem_append_right _ hp)
theorem ne_at_u_229 {A : Around} {x d y d2 : Addr} {sl sl2 : Array (Option Value)} (hd1 : A.depth ≤ 600) (hu : A.units ≤ 1500) (F : Fr h₀ L s.heap m) (X : (hd.heap_39 w.params).In h₀) (N : News h₀ L s.heap news) (hx : (x, (⟨.ref 229, some d, .plain, sl⟩ : Obj)) ∈ news) (hy : (y, (⟨.ref 229, some d2, .plain, sl2⟩ : Obj)) ∈ news)
    (h : ∀ h' tk, Fr h₀ L h' m → News h₀ L h' news → Q (.bool false) { s with heap := h', toks := tk }) : wpAny (model PW w) A (PySem.call (.ref 151) [.ref x, .ref y]) Q E s := by
  refine wpAny_wide hd1 hu (wpAny_mono (ne_u_229 (X.keeps F.keep) (N _ hx).1 (N _ hy).1) ?_ fun _ _ z => z)
  rintro v s' ⟨h', tk, mn, rfl, D, rfl⟩
  exact h h' tk (fr_mem F D) fun p hp => news_mem F N D p (List.mem_append_right _ hp)
theorem ne_at_i_250 {A : Around} {t2 : Tok} {j : Int} {x d : Addr} {sl : Array (Option Value)} (hd1 : A.depth ≤ 600) (hu : A.units ≤ 1500) (F : Fr h₀ L s.heap m) (X : (hd.heap_39 w.params).In h₀) (N : News h₀ L s.heap news) (hx : (x, (⟨.ref 250, some d, .plain, sl⟩ : Obj)) ∈ news)
    (h : ∀ h' tk, Fr h₀ L h' m → News h₀ L h' news → Q (.bool true) { s with heap := h', toks := tk }) : wpAny (model PW w) A (PySem.call (.ref 151) [.ref x, .int j t2]) Q E s := by
  refine wpAny_wide hd1 hu (wpAny_mono (ne_i_250 (X.keeps F.keep) (N _ hx).1) ?_ fun _ _ z => z)
  rintro v s' ⟨h', tk, mn, rfl, D, rfl⟩
  exact h h' tk (fr_mem F D) fun p hp => news_mem F N D p (List.mem_append_right _ hp)
theorem ne_at_u_250 {A : Around} {x d y d2 : Addr} {sl sl2 : Array (Option Value)} (hd1 : A.depth ≤ 600) (hu : A.units ≤ 1500) (F : Fr h₀ L s.heap m) (X : (hd.heap_39 w.params).In h₀) (N : News h₀ L s.heap news) (hx : (x, (⟨.ref 250, some d, .plain, sl⟩ : Obj)) ∈ news) (hy : (y, (⟨.ref 250, some d2, .plain, sl2⟩ : Obj)) ∈ news)
    (h : ∀ h' tk, Fr h₀ L h' m → News h₀ L h' news → Q (.bool false) { s with heap := h', toks := tk }) : wpAny (model PW w) A (PySem.call (.ref 151) [.ref x, .ref y]) Q E s := by
  refine wpAny_wide hd1 hu (wpAny_mono (ne_u_250 (X.keeps F.keep) (N _ hx).1 (N _ hy).1) ?_ fun _ _ z => z)
  rintro v s' ⟨h', tk, mn, rfl, D, rfl⟩
  exact h h' tk (fr_mem F D) fun p hp => news_mem F N D p (List.mem_append_right _ hp)
end
end Mine
end
section
theorem Mine.quiet_N3 : True := by
  w_top off
  trivial
open PySem PySem.W PySem.W.X PyProof.Rows PySem.Calls
namespace Mine
/-- the surroundings with room made round figures, outside of any handler -/
def wide0 (A : Around) : Around := ⟨none, 600, A.frames, A.guards, 1500⟩
theorem wide0_in {Γ : Ctx} {A : Around} (h : Γ.In A) (hh : A.handled = none) (hd : A.depth ≤ 600) (hu : A.units ≤ 1500) : Γ.In (wide0 A) := by
  obtain ⟨a, b, c, d, e⟩ := h
  exact ⟨a.trans hh, Nat.le_trans b hd, c, d, Nat.le_trans e hu⟩
theorem wpAny_wide0 {M : Model} {α : Type} {A : Around} {t : Sem α} {Q : α → Shared → Prop} {E : Value → Shared → Prop} {s : Shared} (hh : A.handled = none) (hd : A.depth ≤ 600) (hu : A.units ≤ 1500) (h : wpAny M (wide0 A) t Q E s) : wpAny M A t Q E s :=
  fun Γ p hΓ => h Γ p (wide0_in hΓ hh hd hu)
local macro_rules | `(tactic| x_close) => `(tactic| (refine Left.mk (by assumption) ?_; exact ⟨_, _, rfl, by repeat (first | exact List.Mem.head _ | refine List.Mem.tail _ ?_)⟩))
set_option maxRecDepth 100000 in
set_option maxHeartbeats 8000000 in
theorem list_197 {w : World} {s : Shared} {A : Around} (X : Frag.In (hd.heap_39 w.params) s.heap) {E : Value → Shared → Prop} {x d : Addr} {sl : Array (Option Value)} (hx : s.heap.get? x = some ⟨.ref 197, some d, .plain, sl⟩) :
  wpAny (model PySem.Challenge.pw_co0007_01 w) (wide0 A) (PySem.call (.type "list") [.ref x]) (Left s fun v mn => ∃ l n, v = .ref l ∧ (l, (listOf #[] n : Obj)) ∈ mn) E s := by
  x_run
set_option maxRecDepth 100000 in
set_option maxHeartbeats 8000000 in
theorem list_229 {w : World} {s : Shared} {A : Around} (X : Frag.In (hd.heap_39 w.params) s.heap) {E : Value → Shared → Prop} {x d : Addr} {sl : Array (Option Value)} (hx : s.heap.get? x = some ⟨.ref 229, some d, .plain, sl⟩) :
  wpAny (model PySem.Challenge.pw_co0007_01 w) (wide0 A) (PySem.call (.type "list") [.ref x]) (Left s fun v mn => ∃ l n, v = .ref l ∧ (l, (listOf #[] n : Obj)) ∈ mn) E s := by
  x_run
set_option maxRecDepth 100000 in
set_option maxHeartbeats 8000000 in
theorem list_250 {w : World} {s : Shared} {A : Around} (X : Frag.In (hd.heap_39 w.params) s.heap) {E : Value → Shared → Prop} {x d : Addr} {sl : Array (Option Value)} (hx : s.heap.get? x = some ⟨.ref 250, some d, .plain, sl⟩) :
  wpAny (model PySem.Challenge.pw_co0007_01 w) (wide0 A) (PySem.call (.type "list") [.ref x]) (Left s fun v mn => ∃ l n, v = .ref l ∧ (l, (listOf #[] n : Obj)) ∈ mn) E s := by
  x_run
local macro_rules | `(tactic| x_close) => `(tactic| (refine Left.mk (by assumption) ?_; first | exact ⟨_, rfl⟩ | exact ⟨_, congrArg (fun z => Value.str z _) (by decide +kernel)⟩))
set_option maxRecDepth 100000 in
set_option maxHeartbeats 8000000 in
theorem str_0 {w : World} {s : Shared} {A : Around} (X : Frag.In (hd.heap_39 w.params) s.heap) {E : Value → Shared → Prop} {x d : Addr} {t1 : Tok} (hx : s.heap.get? x = some ⟨.ref 250, some d, .plain, #[some (.ref 67), some .none, some (.str "x" t1), some (.ref 92)]⟩) :
  wpAny (model PySem.Challenge.pw_co0007_01 w) (wide A) (PySem.call (.ref 246) [.ref x]) (Left s fun v mn => ∃ t, v = .str "{{ x }}" t) E s := by
  x_run
set_option maxRecDepth 100000 in
set_option maxHeartbeats 8000000 in
theorem str_1 {w : World} {s : Shared} {A : Around} (X : Frag.In (hd.heap_39 w.params) s.heap) {E : Value → Shared → Prop} {x d r : Addr} {t1 : Tok} {dd : Option Addr} {dt : Data} {sl : Array (Option Value)} (hx : s.heap.get? x = some ⟨.ref 250, some d, .plain, #[some (.ref 67), some .none, some (.str "b" t1), some (.ref r)]⟩)(hr : s.heap.get? r = some ⟨.type "dict", dd, dt, sl⟩) :
  wpAny (model PySem.Challenge.pw_co0007_01 w) (wide A) (PySem.call (.ref 246) [.ref x]) (Left s fun v mn => ∃ t, v = .str "{{ no such element: dict object['b'] }}" t) E s := by
  x_run
set_option maxRecDepth 100000 in
set_option maxHeartbeats 8000000 in
theorem str_2 {w : World} {s : Shared} {A : Around} (X : Frag.In (hd.heap_39 w.params) s.heap) {E : Value → Shared → Prop} {x d : Addr} {t1 : Tok} (hx : s.heap.get? x = some ⟨.ref 250, some d, .plain, #[some (.ref 67), some (.str "no such thing" t1), some .none, some (.ref 92)]⟩) :
  wpAny (model PySem.Challenge.pw_co0007_01 w) (wide A) (PySem.call (.ref 246) [.ref x]) (Left s fun v mn => ∃ t, v = .str "{{ undefined value printed: no such thing }}" t) E s := by
  x_run
end Mine
end
section
theorem Mine.quiet_B3 : True := by
  w_top off
  trivial
open PySem PySem.W PySem.W.X PyProof.Rows PySem.Calls
namespace Mine
section
variable {prog : Program} {w : World} {A : Around} {E : Value → Shared → Prop} {s : Shared} {K : Frag} {x C f L : Addr} {h₀ : Heap} {m : Str → Option Value} {ox : Obj} {od : Option Obj} {Q : Value → Shared → Prop}
theorem inst_keeps {h h' : Heap} (I : InstAt h x ox C od) (k : ∀ b o, h.get? b = some o → h'.get? b = some o) : InstAt h' x ox C od := by
  obtain ⟨a, b, c, d⟩ := I
  refine ⟨k _ _ a, b, c, ?_⟩
  revert d
  rcases ox.dict with _ | e <;> rcases od with _ | o
  · exact fun z => z
  · exact fun z => z
  · exact fun z => z
  · exact k _ _
/-- list(x) where the walk over x fails at once -/
theorem list_fails (F : Fr h₀ L s.heap m) (X₀ : K.In h₀) (I : InstAt s.heap x ox C od) (hs : findIn K (.ref C) "__iter__" = some (some (.ref f))) (hf : isFn K (.ref f) = true)
    (h : ∀ h', (∀ b o, s.heap.get? b = some o → h'.get? b = some o) → wpAny (model prog w) A.in1.in1 (call (.ref f) [.ref x]) (fun _ _ => False) E { s with heap := h' }) :
    wpAny (model prog w) A (call (.type "list") [.ref x]) Q E s := by
  refine callType_codes (Q₁ := fun obj s₁ => obj = .ref s.heap.objs.size ∧ s₁ = { s with heap := s.heap.push { cls := .type "list", data := .seq #[] } }) PySem.F.called_list (PySem.F.typeCall_list_1 _) PySem.F.entry_list_init
    (code_list_new _ ⟨rfl, rfl⟩) fun obj s₁ h₁ => ?_
  obtain ⟨rfl, rfl⟩ := h₁
  have hS : (s.heap.push { cls := .type "list", data := .seq #[] }).get? s.heap.objs.size = some { cls := .type "list", data := .seq #[] } := Heap.get?_push_size _ rfl
  refine ⟨⟨_, hS, rfl⟩, PySem.F.args_list_init_2 _ _, ?_⟩
  show wpAny _ _ (do let old ← Builtin.List.listItems (.ref s.heap.objs.size); Builtin.List.listUpdate (.ref s.heap.objs.size) (fun _ => #[]); letGo old.toList.reverse; Builtin.List.listExtendWith (.ref s.heap.objs.size) (.ref x) .none) _ _ _
  refine wpAny_bind ?_
  unfold Builtin.List.listItems
  refine wpAny_bind (wpAny_seqItems hS rfl (wpAny_pure ?_))
  show wpAny _ _ (updateSeq s.heap.objs.size (fun _ => #[]) >>= fun _ => letGo (#[] : Array Value).toList.reverse >>= fun _ => Builtin.List.listExtendWith (.ref s.heap.objs.size) (.ref x) .none) _ _ _
  refine wpAny_bind (wpAny_updateSeq hS rfl ?_)
  have k : ∀ b o, s.heap.get? b = some o → ((s.heap.push { cls := .type "list", data := .seq #[] }).update s.heap.objs.size (Obj.mapSeq (fun _ => (#[] : Array Value)))).get? b = some o := fun b o e =>
    (Heap.get?_update_other _ _ (by rintro rfl; exact absurd (Heap.lt_size e) (Nat.lt_irrefl _))).trans (Heap.get?_push_of_some _ e)
  refine wpAny_bind (wpAny_letGo ?_)
  have F₂ := F.keeps k
  have I₂ := inst_keeps I k
  have hne : s.heap.objs.size ≠ x := by rintro rfl; exact absurd (Heap.lt_size I.at_) (Nat.lt_irrefl _)
  unfold Builtin.List.listExtendWith
  have L0 := I₂.type (M := model prog w)
  refine wpAny_bind (L0.here ?_)
  rw [if_neg (by simp [Builtin.List.listSameRef, hne])]
  refine wpAny_bind (owit_iter F₂ X₀ I₂ hs hf (wpAny_mono (h _ k) (fun _ _ z => z.elim) fun _ _ z => z))
end
end Mine
end
section
theorem Mine.quiet_N4 : True := by
  w_top off
  trivial
open PySem PySem.W PySem.W.X PyProof.Rows PySem.Calls PyProof.V PySem.Spec
namespace Mine
def printed (κ k : Nat) : Str := if κ = 2 then (match k with
  | 0 => "{{ x }}"
  | 1 => "{{ no such element: dict object['b'] }}"
  | _ => "{{ undefined value printed: no such thing }}") else ""
section
variable {w : World} {mean : ExcName → Option Value} {mg mb : Str → Option Value} {gd : Option (List Code)} {cn : Str} {nms : List (Str × NameKind)} {more : List (Str × Const)} {a : Addr} {ccd : Value} {outer : List Env} {A₀ : Around} {base h₀ : Heap} {L : Addr} {m : Str → Option Value} {news : List (Addr × Obj)} {s : Shared} {Q E : Value → Shared → Prop} {A : Around}
theorem left_list {x : Addr} (hh : A.handled = none) (hd1 : A.depth ≤ 600) (hu : A.units ≤ 1500) (F : Fr h₀ L s.heap m) (N : News h₀ L s.heap news)
    (c : wpAny (model PW w) (wide0 A) (PySem.call (.type "list") [.ref x]) (Left s fun v mn => ∃ l n, v = .ref l ∧ (l, (listOf #[] n : Obj)) ∈ mn) E s)
    (h : ∀ h' tk l n, Fr h₀ L h' m → News h₀ L h' ((l, (listOf #[] n : Obj)) :: news) → Q (.ref l) { s with heap := h', toks := tk }) : wpAny (model PW w) A (PySem.call (.type "list") [.ref x]) Q E s := by
  refine wpAny_wide0 hh hd1 hu (wpAny_mono c ?_ fun _ _ z => z)
  rintro v s' ⟨h', tk, mn, rfl, D, l, n, rfl, hl⟩
  refine h h' tk l n (fr_mem F D) fun p hp => news_mem F N D p ?_
  rcases List.mem_cons.mp hp with rfl | hp
  · exact List.mem_append_left _ hl
  · exact List.mem_append_right _ hp
theorem list_at {C x d : Addr} {sl : Array (Option Value)} (hC : C = 197 ∨ C = 229 ∨ C = 250) (hh : A.handled = none) (hd1 : A.depth ≤ 600) (hu : A.units ≤ 1500) (F : Fr h₀ L s.heap m) (X : (hd.heap_39 w.params).In h₀) (N : News h₀ L s.heap news) (hx : (x, (⟨.ref C, some d, .plain, sl⟩ : Obj)) ∈ news)
    (h : ∀ h' tk l n, Fr h₀ L h' m → News h₀ L h' ((l, (listOf #[] n : Obj)) :: news) → Q (.ref l) { s with heap := h', toks := tk }) : wpAny (model PW w) A (PySem.call (.type "list") [.ref x]) Q E s := by
  rcases hC with rfl | rfl | rfl
  · exact left_list hh hd1 hu F N (list_197 (X.keeps F.keep) (N _ hx).1) h
  · exact left_list hh hd1 hu F N (list_229 (X.keeps F.keep) (N _ hx).1) h
  · exact left_list hh hd1 hu F N (list_250 (X.keeps F.keep) (N _ hx).1) h
theorem list_at3 {x d n : Addr} {sl : Array (Option Value)} {es : List DictEntry} (F : Fr h₀ L s.heap m) (X : (hd.heap_39 w.params).In h₀) (N : News h₀ L s.heap news) (hx : (x, (⟨.ref 264, some d, .plain, sl⟩ : Obj)) ∈ news) (hdx : (d, (dictOf es n : Obj)) ∈ news)
    (hs : findIn (hd.heap_39 w.params) (.ref 264) "__iter__" = some (some (.ref 130))) (hf : isFn (hd.heap_39 w.params) (.ref 130) = true)
    (h : ∀ h', Fr h₀ L h' m → News h₀ L h' news → wpAny (model PW w) A.in1.in1 (PySem.call (.ref 130) [.ref x]) (fun _ _ => False) E { s with heap := h' }) : wpAny (model PW w) A (PySem.call (.type "list") [.ref x]) Q E s := by
  have I : W.InstAt s.heap x ⟨.ref 264, some d, .plain, sl⟩ 264 (some (dictOf es n)) := ⟨(N _ hx).1, rfl, rfl, (N _ hdx).1⟩
  exact list_fails F X I hs hf fun h' k => h h' (F.keeps k) fun p hp => ⟨k _ _ (N p hp).1, (N p hp).2⟩
theorem left_str {x : Addr} {y : Str} (hd1 : A.depth ≤ 600) (hu : A.units ≤ 1500) (F : Fr h₀ L s.heap m) (N : News h₀ L s.heap news)
    (c : wpAny (model PW w) (wide A) (PySem.call (.ref 246) [.ref x]) (Left s fun v mn => ∃ t, v = .str y t) E s)
    (h : ∀ h' tk t, Fr h₀ L h' m → News h₀ L h' news → Q (.str y t) { s with heap := h', toks := tk }) : wpAny (model PW w) A (PySem.call (.ref 246) [.ref x]) Q E s := by
  refine wpAny_wide hd1 hu (wpAny_mono c ?_ fun _ _ z => z)
  rintro v s' ⟨h', tk, mn, rfl, D, t, rfl⟩
  exact h h' tk t (fr_mem F D) fun p hp => news_mem F N D p (List.mem_append_right _ hp)
theorem str_at {x k : Nat} (hd1 : A.depth ≤ 600) (hu : A.units ≤ 1500) (F : Fr h₀ L s.heap m) (X : (hd.heap_39 w.params).In h₀) (N : News h₀ L s.heap news) (hU : ULed news 250 x k)
    (h : ∀ h' tk t, Fr h₀ L h' m → News h₀ L h' news → Q (.str (printed 2 k) t) { s with heap := h', toks := tk }) : wpAny (model PW w) A (PySem.call (.ref 246) [.ref x]) Q E s := by
  cases hU with
  | w0 a b => exact left_str hd1 hu F N (str_0 (X.keeps F.keep) (N _ a).1) h
  | w1 a b c => exact left_str hd1 hu F N (str_1 (X.keeps F.keep) (N _ a).1 (N _ c).1) h
  | w2 a b => exact left_str hd1 hu F N (str_2 (X.keeps F.keep) (N _ a).1) h
theorem number_at {x : Str} {t0 : Tok} (hA : A.handled = none ∧ A.depth ≤ 560 ∧ A.frames = some (envOf cn (SC nms more) L a ccd :: outer) ∧ A.guards = gd ∧ A.units ≤ 1120)
    (B : Below A₀ base outer h₀) (F : Fr h₀ L s.heap m) (X : (hd.heap_39 w.params).In h₀) (N : News h₀ L s.heap news) (T : Top hd.view_39 (looseW hd.view_39 LL) mean mg mb h₀) (hx : x.length ≤ 100)
    (hQ : ∀ h' tk t, Fr h₀ L h' m → News h₀ L h' news → Q (.int (lawNum x) t) { s with heap := h', toks := tk }) : wpAny (model PW w) A (PySem.call (.ref 287) [.str x t0]) Q E s := by
  obtain ⟨a1, a2, a3, a4, a5⟩ := hA
  exact wpAny_le (number_call B F X N T hx hQ) a1 (by show A.depth ≤ 560; omega) a3 a4 (by show A.units ≤ 2 * 560; omega)
theorem getm_at {C x f : Nat} {pl : Sem Bool} {name : Str} {Q : Value × List Value → Shared → Prop} {hook : Value} {ox : Obj} {od : Option Obj} (F : Fr h₀ L s.heap m) (X : (hd.heap_39 w.params).In h₀) (N : News h₀ L s.heap news) (I : InstAt s.heap x ox C od)
    (hga : findIn (hd.heap_39 w.params) (.ref C) "__getattribute__" = some (some (.builtin "object.__getattribute__")))
    (hf : findObj (hd.heap_39 w.params) C od name = some (.bind (.builtin "function.__get__") (.ref f))) (hk : findIn (hd.heap_39 w.params) (.ref C) "__getattr__" = some (some hook)) (hp : typeIn (hd.heap_39 w.params) (.ref f) = some (.type "function"))
    (h : ∀ q h', Fr h₀ L h' m → News h₀ L h' ((q, methodObj (.ref f) (.ref x)) :: news) → (∀ p ∈ news, p.1 < q) → Q (.ref q, []) { s with heap := h', toks := s.toks + 1 }) : wpAny (model PW w) A (getMethod (.ref x) name pl) Q E s := by
  refine getm_bindH (X.keeps F.keep) I hga hf hk hp ?_
  refine h _ _ (F.push _) ?_ fun p hp => Heap.lt_size (N p hp).1
  intro p hp
  rcases List.mem_cons.mp hp with rfl | hp
  · exact ⟨Heap.get?_push_size _ rfl, Nat.ne_of_gt F.ns.lt, next_is_new F⟩
  · exact ⟨Heap.get?_push_of_some _ (N p hp).1, (N p hp).2⟩
end
end Mine
end
section
theorem Mine.quiet_P0 : True := by
  w_top off
  trivial
open PySem PySem.W PySem.W.X PyProof.Rows PySem.Calls PyProof.V PySem.Spec
namespace Mine
def oneOf (κ what : Nat) : AV → Option AV
  | .num i => some (.num (match what with
    | 0 => (-i).fmod 1000
    | 1 => if i = 0 then 1 else 0
    | 2 => lawNum (Str.ofString (toString i))
    | _ => i))
  | .lost k => match what with
    | 1 => if κ = 3 then none else some (.num 1)
    | 2 => if κ = 3 then none else some (.num (lawNum (printed κ k)))
    | 3 => if κ = 3 then none else some (.num 0)
    | 4 => if κ = 3 then none else some (.num 0)
    | 5 => if κ = 1 then some (.lost k) else none
    | 6 => if κ = 1 then some (.lost k) else none
    | _ => none
theorem news_tail {h₀ h : Heap} {L : Addr} {q : Addr × Obj} {news : List (Addr × Obj)} (N : News h₀ L h (q :: news)) : News h₀ L h news := fun p hp => N p (List.Mem.tail _ hp)
theorem printed_len (κ k : Nat) : (printed κ k).length ≤ 100 := by
  unfold printed
  split
  · split <;> decide
  · decide
/-- the value v stands for r -/
inductive VRel (news : List (Addr × Obj)) (C : Addr) : Value → AV → Prop
  | num {i : Int} {t : Tok} : VRel news C (.int i t) (.num i)
  | lost {x k : Nat} : ULed news C x k → VRel news C (.ref x) (.lost k)
end Mine
end
section
theorem Mine.quiet_P1 : True := by
  w_top off
  trivial
open PySem PySem.W PySem.W.X PyProof.Rows PySem.Calls PyProof.V PySem.Spec
namespace Mine
section
variable {w : World} {mean : ExcName → Option Value} {mg mb : Str → Option Value} {gd : Option (List Code)} {cn : Str} {nms : List (Str × NameKind)} {more : List (Str × Const)} {a : Addr} {ccd : Value} {outer : List Env} {A₀ : Around} {base h₀ : Heap} {L : Addr} {m : Str → Option Value} {news : List (Addr × Obj)} {s : Shared} {Q E : Value → Shared → Prop}
local macro_rules | `(tactic| walk_at "call ref") => `(tactic| ((with_reducible show wpAny _ _ (PySem.call (Value.ref 130) _) _ _ _); k_dflt (refine' fail1_at ⟨rfl, Nat.le_of_ble_eq_true rfl, rfl, rfl, Nat.le_of_ble_eq_true rfl⟩ ?b ?f ?x ?t ?d ?u ?c ?n ?s ?_; (case b => assumption); (case f => k_asm); (case x => assumption); (case t => assumption); (case d => exact dict_push (by assumption) (by assumption)); (case u => assumption); (case c => first | exact isU0 | exact isU1 | exact isU2 | exact isU3); (case n => k_asm); (case s => exact fun p hp => hp)); intro e t h' G tk' vs FG R U; k_whole))
local macro_rules | `(tactic| walk_at "call ref") => `(tactic| ((with_reducible show wpAny _ _ (PySem.call (Value.ref 130) _) _ _ _); k_dflt (refine' fail0_at ⟨rfl, Nat.le_of_ble_eq_true rfl, rfl, rfl, Nat.le_of_ble_eq_true rfl⟩ ?b ?f ?x ?t ?d ?u ?c ?n ?s ?_; (case b => assumption); (case f => k_asm); (case x => assumption); (case t => assumption); (case d => exact dict_push (by assumption) (by assumption)); (case u => assumption); (case c => first | exact isU0 | exact isU1 | exact isU2 | exact isU3); (case n => k_asm); (case s => exact fun p hp => hp)); intro e t h' G tk' vs FG R U; k_whole))
local macro_rules | `(tactic| walk_at "call ref") => `(tactic| ((with_reducible show wpAny _ _ (PySem.call (Value.ref 287) _) _ _ _); k_dflt (refine' number_at ⟨rfl, Nat.le_of_ble_eq_true rfl, rfl, rfl, Nat.le_of_ble_eq_true rfl⟩ ?b ?f ?x ?n ?t ?l ?_; (case b => assumption); (case f => k_asm); (case x => assumption); (case n => k_asm); (case t => assumption); (case l => first | exact printed_len _ _ | decide)); intro h' tk' t' F' N'; k_whole))
local macro_rules | `(tactic| walk_at "call ref") => `(tactic| ((with_reducible show wpAny _ _ (PySem.call (Value.ref 246) _) _ _ _); k_dflt (refine' str_at (Nat.le_of_ble_eq_true rfl) (Nat.le_of_ble_eq_true rfl) ?f ?x ?n ?u ?_; (case f => k_asm); (case x => assumption); (case n => k_asm); (case u => assumption)); intro h' tk' t' F' N'; (try dsimp only [PySem.W.StrBack]); k_whole))
local macro_rules | `(tactic| walk_at "call type:list") => `(tactic| ((with_reducible show wpAny _ _ (PySem.call (Value.type "list") [Value.ref _]) _ _ _); k_dflt (refine' list_at ?c rfl (Nat.le_of_ble_eq_true rfl) (Nat.le_of_ble_eq_true rfl) ?f ?x ?n ?u ?_; (case f => k_asm); (case x => assumption); (case n => k_asm); (case u => assumption); (case c => first | exact Or.inl rfl | exact Or.inr (Or.inl rfl) | exact Or.inr (Or.inr rfl))); intro h' tk' l' n' F' N'; k_whole))
local macro_rules | `(tactic| walk_at "call type:list") => `(tactic| ((with_reducible show wpAny _ _ (PySem.call (Value.type "list") [Value.ref _]) _ _ _); k_dflt (refine' list_at3 ?f ?x ?n ?u ?v ?i ?j ?_; (case f => k_asm); (case x => assumption); (case n => k_asm); (case u => assumption); (case v => assumption); (case i => k_is); (case j => k_is)); intro h' F' N'; k_whole))
local macro_rules | `(tactic| walk_at "getMethod ref") => `(tactic| ((with_reducible show wpAny _ _ (getMethod (Value.ref _) (PySem.Str.ofString "_fail_with_undefined_error") _) _ _ _); k_dflt (refine' getm_at ?f ?x ?n ?i ?a ?b ?c ?d ?_; (case f => k_asm); (case x => assumption); (case n => k_asm); (case i => k_inst); (case a => k_is); (case b => (refine' findObj_fn ?b1 ?b2 ?b3 ?b4 ?b5; (case b1 => k_is); (case b2 => k_is); (case b3 => k_is); (case b4 => k_is); (case b5 => decide))); (case c => k_is); (case d => k_is)); intro q' h' F' N' l'; (try k_lt l'); k_whole))
local macro_rules | `(tactic| walk_at "getAttr ref") => `(tactic| ((with_reducible show wpAny _ _ (getAttr (Value.ref _) (PySem.Str.ofString "colour") _) _ _ _); k_dflt (refine' get_hook ?x ?i ?a ?b ?c ?d ?_; (case x => k_in); (case i => k_inst); (case a => k_is); (case b => (refine' findObj_miss ?b1 ?b2 ?b3; (case b1 => k_is); (case b2 => k_is); (case b3 => decide))); (case c => k_is); (case d => k_is)); k_whole))
local macro_rules | `(tactic| walk_at "call ref") => `(tactic| ((with_reducible show wpAny _ _ (PySem.call (Value.ref _) []) _ _ _); k_dflt (refine' call_meth ?k1 ?k2 ?_; (case k1 => k_asm); (case k2 => k_mem); (refine' fail0c_at ⟨rfl, Nat.le_of_ble_eq_true rfl, rfl, rfl, Nat.le_of_ble_eq_true rfl⟩ ?b ?f ?x ?t ?d ?u ?c ?n ?s ?_; (case b => assumption); (case f => k_asm); (case x => assumption); (case t => assumption); (case d => first | exact dict_push (by assumption) (by assumption) | exact dict_push (by assumption) (dict_push (by assumption) (by assumption))); (case u => assumption); (case c => first | exact isU0 | exact isU1 | exact isU2 | exact isU3); (case n => k_asm); (case s => exact fun p hp => List.Mem.tail _ hp))); intro e t h' G tk' vs FG R U; k_whole))
local macro_rules | `(tactic| walk_at "call ref") => `(tactic| ((with_reducible show wpAny _ _ (PySem.call (Value.ref _) []) _ _ _); k_dflt (refine wpAny_call ?_; (refine' kco_code ?k1 ?k2 ?k3 ?k4 ?k5 ?k6 ?_; (case k1 => k_in); (case k2 => k_inst); (case k3 => rfl); (case k4 => k_is); (case k5 => k_is); (case k6 => k_is)); (refine' fail0c_at ⟨rfl, Nat.le_of_ble_eq_true rfl, rfl, rfl, Nat.le_of_ble_eq_true rfl⟩ ?b ?f ?x ?t ?d ?u ?c ?n ?s ?_; (case b => assumption); (case f => k_asm); (case x => assumption); (case t => assumption); (case d => first | exact dict_push (by assumption) (by assumption) | exact dict_push (by assumption) (dict_push (by assumption) (by assumption))); (case u => assumption); (case c => first | exact isU0 | exact isU1 | exact isU2 | exact isU3); (case n => k_asm); (case s => exact fun p hp => hp))); intro e t h' G tk' vs FG R U; k_whole))
set_option maxRecDepth 100000 in
set_option maxHeartbeats 4000000 in
theorem one_u_0 (B : Below A₀ base outer h₀) (F : Fr h₀ L s.heap m) (X : (hd.heap_39 w.params).In h₀) (N : News h₀ L s.heap news) (T : Top hd.view_39 (looseW hd.view_39 LL) mean mg mb h₀) 
    (D : KtsDicts (outer.filterMap (·.frame)) h₀) (XB : (hd.heap_39 w.params).In base) {what : Nat} {wI : Int} {t0 : Tok} (hw : (what = 0 ∧ wI = 0) ∨ (what = 1 ∧ wI = 1) ∨ (what = 2 ∧ wI = 2) ∨ (what = 3 ∧ wI = 3) ∨ (what = 4 ∧ wI = 4) ∨ (what = 5 ∧ wI = 5) ∨ (what = 6 ∧ wI = 6) ∨ (what = 7 ∧ wI = 7)) {x k : Nat} {led : List (Addr × Obj)} (hled : ∀ p ∈ led, p ∈ news) (ux₀ : ULed led 197 x k)
    (hQ : ∀ r, oneOf 0 what (.lost k) = some r → ∀ v h' tk, VRel led 197 v r → Fr h₀ L h' m → News h₀ L h' news → Q v { s with heap := h', toks := tk })
    (hE : oneOf 0 what (.lost k) = none → ∀ e t h' G tk' vs, Fr h₀ L G m → RaisedS base G (envOf cn (SC nms more) L a ccd :: outer) e (.ref 67) t vs news h' → G.UpToSlots h' → E (.ref e) { s with heap := h', toks := tk' }) :
    wpAny (model PW w) (AT 540 gd (envOf cn (SC nms more) L a ccd) outer) (PySem.call (.ref 315) [.int wI t0, .ref x]) Q E s := by
  have ux := ux₀.mono hled
  obtain ⟨dx, nx, sx, hx, hdx⟩ := ux.data
  have hwI : wI = (what : Int) := by omega
  have hlt : what < 8 := by omega
  clear hw
  refine wpAny_call ?_
  k_enter
  k_steps
  all_goals (try ((rename RaisedS _ _ _ _ _ _ _ _ _ => hRN); refine noteIf_quiet XB hRN (by k_is) ?_; k_steps))
  · obtain rfl : what = 0 := by omega
    first | ((rename RaisedS _ _ _ _ _ _ _ _ _ => hRR); exact hE rfl _ _ _ _ _ _ (by assumption) hRR (by assumption)) | exact hQ _ rfl _ _ _ VRel.num (by assumption) (by assumption) | exact hQ _ rfl _ _ _ VRel.num (by assumption) (news_tail (by assumption)) | exact hQ _ rfl _ _ _ (VRel.lost ux₀) (by assumption) (by assumption)
  · obtain rfl : what = 1 := by omega
    first | ((rename RaisedS _ _ _ _ _ _ _ _ _ => hRR); exact hE rfl _ _ _ _ _ _ (by assumption) hRR (by assumption)) | exact hQ _ rfl _ _ _ VRel.num (by assumption) (by assumption) | exact hQ _ rfl _ _ _ VRel.num (by assumption) (news_tail (by assumption)) | exact hQ _ rfl _ _ _ (VRel.lost ux₀) (by assumption) (by assumption)
  · obtain rfl : what = 2 := by omega
    first | ((rename RaisedS _ _ _ _ _ _ _ _ _ => hRR); exact hE rfl _ _ _ _ _ _ (by assumption) hRR (by assumption)) | exact hQ _ rfl _ _ _ VRel.num (by assumption) (by assumption) | exact hQ _ rfl _ _ _ VRel.num (by assumption) (news_tail (by assumption)) | exact hQ _ rfl _ _ _ (VRel.lost ux₀) (by assumption) (by assumption)
  · obtain rfl : what = 3 := by omega
    first | ((rename RaisedS _ _ _ _ _ _ _ _ _ => hRR); exact hE rfl _ _ _ _ _ _ (by assumption) hRR (by assumption)) | exact hQ _ rfl _ _ _ VRel.num (by assumption) (by assumption) | exact hQ _ rfl _ _ _ VRel.num (by assumption) (news_tail (by assumption)) | exact hQ _ rfl _ _ _ (VRel.lost ux₀) (by assumption) (by assumption)
  · obtain rfl : what = 4 := by omega
    first | ((rename RaisedS _ _ _ _ _ _ _ _ _ => hRR); exact hE rfl _ _ _ _ _ _ (by assumption) hRR (by assumption)) | exact hQ _ rfl _ _ _ VRel.num (by assumption) (by assumption) | exact hQ _ rfl _ _ _ VRel.num (by assumption) (news_tail (by assumption)) | exact hQ _ rfl _ _ _ (VRel.lost ux₀) (by assumption) (by assumption)
  · obtain rfl : what = 5 := by omega
    first | ((rename RaisedS _ _ _ _ _ _ _ _ _ => hRR); exact hE rfl _ _ _ _ _ _ (by assumption) hRR (by assumption)) | exact hQ _ rfl _ _ _ VRel.num (by assumption) (by assumption) | exact hQ _ rfl _ _ _ VRel.num (by assumption) (news_tail (by assumption)) | exact hQ _ rfl _ _ _ (VRel.lost ux₀) (by assumption) (by assumption)
  · obtain rfl : what = 6 := by omega
    first | ((rename RaisedS _ _ _ _ _ _ _ _ _ => hRR); exact hE rfl _ _ _ _ _ _ (by assumption) hRR (by assumption)) | exact hQ _ rfl _ _ _ VRel.num (by assumption) (by assumption) | exact hQ _ rfl _ _ _ VRel.num (by assumption) (news_tail (by assumption)) | exact hQ _ rfl _ _ _ (VRel.lost ux₀) (by assumption) (by assumption)
  · obtain rfl : what = 7 := by omega
    first | ((rename RaisedS _ _ _ _ _ _ _ _ _ => hRR); exact hE rfl _ _ _ _ _ _ (by assumption) hRR (by assumption)) | exact hQ _ rfl _ _ _ VRel.num (by assumption) (by assumption) | exact hQ _ rfl _ _ _ VRel.num (by assumption) (news_tail (by assumption)) | exact hQ _ rfl _ _ _ (VRel.lost ux₀) (by assumption) (by assumption)
set_option maxRecDepth 100000 in
set_option maxHeartbeats 4000000 in
theorem one_u_1 (B : Below A₀ base outer h₀) (F : Fr h₀ L s.heap m) (X : (hd.heap_39 w.params).In h₀) (N : News h₀ L s.heap news) (T : Top hd.view_39 (looseW hd.view_39 LL) mean mg mb h₀) 
    (D : KtsDicts (outer.filterMap (·.frame)) h₀) (XB : (hd.heap_39 w.params).In base) {what : Nat} {wI : Int} {t0 : Tok} (hw : (what = 0 ∧ wI = 0) ∨ (what = 1 ∧ wI = 1) ∨ (what = 2 ∧ wI = 2) ∨ (what = 3 ∧ wI = 3) ∨ (what = 4 ∧ wI = 4) ∨ (what = 5 ∧ wI = 5) ∨ (what = 6 ∧ wI = 6) ∨ (what = 7 ∧ wI = 7)) {x k : Nat} {led : List (Addr × Obj)} (hled : ∀ p ∈ led, p ∈ news) (ux₀ : ULed led 229 x k)
    (hQ : ∀ r, oneOf 1 what (.lost k) = some r → ∀ v h' tk, VRel led 229 v r → Fr h₀ L h' m → News h₀ L h' news → Q v { s with heap := h', toks := tk })
    (hE : oneOf 1 what (.lost k) = none → ∀ e t h' G tk' vs, Fr h₀ L G m → RaisedS base G (envOf cn (SC nms more) L a ccd :: outer) e (.ref 67) t vs news h' → G.UpToSlots h' → E (.ref e) { s with heap := h', toks := tk' }) :
    wpAny (model PW w) (AT 540 gd (envOf cn (SC nms more) L a ccd) outer) (PySem.call (.ref 315) [.int wI t0, .ref x]) Q E s := by
  have ux := ux₀.mono hled
  obtain ⟨dx, nx, sx, hx, hdx⟩ := ux.data
  have hwI : wI = (what : Int) := by omega
  have hlt : what < 8 := by omega
  clear hw
  refine wpAny_call ?_
  k_enter
  k_steps
  all_goals (try ((rename RaisedS _ _ _ _ _ _ _ _ _ => hRN); refine noteIf_quiet XB hRN (by k_is) ?_; k_steps))
  · obtain rfl : what = 0 := by omega
    first | ((rename RaisedS _ _ _ _ _ _ _ _ _ => hRR); exact hE rfl _ _ _ _ _ _ (by assumption) hRR (by assumption)) | exact hQ _ rfl _ _ _ VRel.num (by assumption) (by assumption) | exact hQ _ rfl _ _ _ VRel.num (by assumption) (news_tail (by assumption)) | exact hQ _ rfl _ _ _ (VRel.lost ux₀) (by assumption) (by assumption)
  · obtain rfl : what = 1 := by omega
    first | ((rename RaisedS _ _ _ _ _ _ _ _ _ => hRR); exact hE rfl _ _ _ _ _ _ (by assumption) hRR (by assumption)) | exact hQ _ rfl _ _ _ VRel.num (by assumption) (by assumption) | exact hQ _ rfl _ _ _ VRel.num (by assumption) (news_tail (by assumption)) | exact hQ _ rfl _ _ _ (VRel.lost ux₀) (by assumption) (by assumption)
  · obtain rfl : what = 2 := by omega
    first | ((rename RaisedS _ _ _ _ _ _ _ _ _ => hRR); exact hE rfl _ _ _ _ _ _ (by assumption) hRR (by assumption)) | exact hQ _ rfl _ _ _ VRel.num (by assumption) (by assumption) | exact hQ _ rfl _ _ _ VRel.num (by assumption) (news_tail (by assumption)) | exact hQ _ rfl _ _ _ (VRel.lost ux₀) (by assumption) (by assumption)
  · obtain rfl : what = 3 := by omega
    first | ((rename RaisedS _ _ _ _ _ _ _ _ _ => hRR); exact hE rfl _ _ _ _ _ _ (by assumption) hRR (by assumption)) | exact hQ _ rfl _ _ _ VRel.num (by assumption) (by assumption) | exact hQ _ rfl _ _ _ VRel.num (by assumption) (news_tail (by assumption)) | exact hQ _ rfl _ _ _ (VRel.lost ux₀) (by assumption) (by assumption)
  · obtain rfl : what = 4 := by omega
    first | ((rename RaisedS _ _ _ _ _ _ _ _ _ => hRR); exact hE rfl _ _ _ _ _ _ (by assumption) hRR (by assumption)) | exact hQ _ rfl _ _ _ VRel.num (by assumption) (by assumption) | exact hQ _ rfl _ _ _ VRel.num (by assumption) (news_tail (by assumption)) | exact hQ _ rfl _ _ _ (VRel.lost ux₀) (by assumption) (by assumption)
  · obtain rfl : what = 5 := by omega
    first | ((rename RaisedS _ _ _ _ _ _ _ _ _ => hRR); exact hE rfl _ _ _ _ _ _ (by assumption) hRR (by assumption)) | exact hQ _ rfl _ _ _ VRel.num (by assumption) (by assumption) | exact hQ _ rfl _ _ _ VRel.num (by assumption) (news_tail (by assumption)) | exact hQ _ rfl _ _ _ (VRel.lost ux₀) (by assumption) (by assumption)
  · obtain rfl : what = 6 := by omega
    first | ((rename RaisedS _ _ _ _ _ _ _ _ _ => hRR); exact hE rfl _ _ _ _ _ _ (by assumption) hRR (by assumption)) | exact hQ _ rfl _ _ _ VRel.num (by assumption) (by assumption) | exact hQ _ rfl _ _ _ VRel.num (by assumption) (news_tail (by assumption)) | exact hQ _ rfl _ _ _ (VRel.lost ux₀) (by assumption) (by assumption)
  · obtain rfl : what = 7 := by omega
    first | ((rename RaisedS _ _ _ _ _ _ _ _ _ => hRR); exact hE rfl _ _ _ _ _ _ (by assumption) hRR (by assumption)) | exact hQ _ rfl _ _ _ VRel.num (by assumption) (by assumption) | exact hQ _ rfl _ _ _ VRel.num (by assumption) (news_tail (by assumption)) | exact hQ _ rfl _ _ _ (VRel.lost ux₀) (by assumption) (by assumption)
set_option maxRecDepth 100000 in
set_option maxHeartbeats 4000000 in
theorem one_u_2 (B : Below A₀ base outer h₀) (F : Fr h₀ L s.heap m) (X : (hd.heap_39 w.params).In h₀) (N : News h₀ L s.heap news) (T : Top hd.view_39 (looseW hd.view_39 LL) mean mg mb h₀) 
    (D : KtsDicts (outer.filterMap (·.frame)) h₀) (XB : (hd.heap_39 w.params).In base) {what : Nat} {wI : Int} {t0 : Tok} (hw : (what = 0 ∧ wI = 0) ∨ (what = 1 ∧ wI = 1) ∨ (what = 2 ∧ wI = 2) ∨ (what = 3 ∧ wI = 3) ∨ (what = 4 ∧ wI = 4) ∨ (what = 5 ∧ wI = 5) ∨ (what = 6 ∧ wI = 6) ∨ (what = 7 ∧ wI = 7)) {x k : Nat} {led : List (Addr × Obj)} (hled : ∀ p ∈ led, p ∈ news) (ux₀ : ULed led 250 x k)
    (hQ : ∀ r, oneOf 2 what (.lost k) = some r → ∀ v h' tk, VRel led 250 v r → Fr h₀ L h' m → News h₀ L h' news → Q v { s with heap := h', toks := tk })
    (hE : oneOf 2 what (.lost k) = none → ∀ e t h' G tk' vs, Fr h₀ L G m → RaisedS base G (envOf cn (SC nms more) L a ccd :: outer) e (.ref 67) t vs news h' → G.UpToSlots h' → E (.ref e) { s with heap := h', toks := tk' }) :
    wpAny (model PW w) (AT 540 gd (envOf cn (SC nms more) L a ccd) outer) (PySem.call (.ref 315) [.int wI t0, .ref x]) Q E s := by
  have ux := ux₀.mono hled
  obtain ⟨dx, nx, sx, hx, hdx⟩ := ux.data
  have hwI : wI = (what : Int) := by omega
  have hlt : what < 8 := by omega
  clear hw
  refine wpAny_call ?_
  k_enter
  k_steps
  all_goals (try ((rename RaisedS _ _ _ _ _ _ _ _ _ => hRN); refine noteIf_quiet XB hRN (by k_is) ?_; k_steps))
  · obtain rfl : what = 0 := by omega
    first | ((rename RaisedS _ _ _ _ _ _ _ _ _ => hRR); exact hE rfl _ _ _ _ _ _ (by assumption) hRR (by assumption)) | exact hQ _ rfl _ _ _ VRel.num (by assumption) (by assumption) | exact hQ _ rfl _ _ _ VRel.num (by assumption) (news_tail (by assumption)) | exact hQ _ rfl _ _ _ (VRel.lost ux₀) (by assumption) (by assumption)
  · obtain rfl : what = 1 := by omega
    first | ((rename RaisedS _ _ _ _ _ _ _ _ _ => hRR); exact hE rfl _ _ _ _ _ _ (by assumption) hRR (by assumption)) | exact hQ _ rfl _ _ _ VRel.num (by assumption) (by assumption) | exact hQ _ rfl _ _ _ VRel.num (by assumption) (news_tail (by assumption)) | exact hQ _ rfl _ _ _ (VRel.lost ux₀) (by assumption) (by assumption)
  · obtain rfl : what = 2 := by omega
    first | ((rename RaisedS _ _ _ _ _ _ _ _ _ => hRR); exact hE rfl _ _ _ _ _ _ (by assumption) hRR (by assumption)) | exact hQ _ rfl _ _ _ VRel.num (by assumption) (by assumption) | exact hQ _ rfl _ _ _ VRel.num (by assumption) (news_tail (by assumption)) | exact hQ _ rfl _ _ _ (VRel.lost ux₀) (by assumption) (by assumption)
  · obtain rfl : what = 3 := by omega
    first | ((rename RaisedS _ _ _ _ _ _ _ _ _ => hRR); exact hE rfl _ _ _ _ _ _ (by assumption) hRR (by assumption)) | exact hQ _ rfl _ _ _ VRel.num (by assumption) (by assumption) | exact hQ _ rfl _ _ _ VRel.num (by assumption) (news_tail (by assumption)) | exact hQ _ rfl _ _ _ (VRel.lost ux₀) (by assumption) (by assumption)
  · obtain rfl : what = 4 := by omega
    first | ((rename RaisedS _ _ _ _ _ _ _ _ _ => hRR); exact hE rfl _ _ _ _ _ _ (by assumption) hRR (by assumption)) | exact hQ _ rfl _ _ _ VRel.num (by assumption) (by assumption) | exact hQ _ rfl _ _ _ VRel.num (by assumption) (news_tail (by assumption)) | exact hQ _ rfl _ _ _ (VRel.lost ux₀) (by assumption) (by assumption)
  · obtain rfl : what = 5 := by omega
    first | ((rename RaisedS _ _ _ _ _ _ _ _ _ => hRR); exact hE rfl _ _ _ _ _ _ (by assumption) hRR (by assumption)) | exact hQ _ rfl _ _ _ VRel.num (by assumption) (by assumption) | exact hQ _ rfl _ _ _ VRel.num (by assumption) (news_tail (by assumption)) | exact hQ _ rfl _ _ _ (VRel.lost ux₀) (by assumption) (by assumption)
  · obtain rfl : what = 6 := by omega
    first | ((rename RaisedS _ _ _ _ _ _ _ _ _ => hRR); exact hE rfl _ _ _ _ _ _ (by assumption) hRR (by assumption)) | exact hQ _ rfl _ _ _ VRel.num (by assumption) (by assumption) | exact hQ _ rfl _ _ _ VRel.num (by assumption) (news_tail (by assumption)) | exact hQ _ rfl _ _ _ (VRel.lost ux₀) (by assumption) (by assumption)
  · obtain rfl : what = 7 := by omega
    first | ((rename RaisedS _ _ _ _ _ _ _ _ _ => hRR); exact hE rfl _ _ _ _ _ _ (by assumption) hRR (by assumption)) | exact hQ _ rfl _ _ _ VRel.num (by assumption) (by assumption) | exact hQ _ rfl _ _ _ VRel.num (by assumption) (news_tail (by assumption)) | exact hQ _ rfl _ _ _ (VRel.lost ux₀) (by assumption) (by assumption)
set_option maxRecDepth 100000 in
set_option maxHeartbeats 4000000 in
theorem one_u_3 (B : Below A₀ base outer h₀) (F : Fr h₀ L s.heap m) (X : (hd.heap_39 w.params).In h₀) (N : News h₀ L s.heap news) (T : Top hd.view_39 (looseW hd.view_39 LL) mean mg mb h₀) 
    (D : KtsDicts (outer.filterMap (·.frame)) h₀) (XB : (hd.heap_39 w.params).In base) {what : Nat} {wI : Int} {t0 : Tok} (hw : (what = 0 ∧ wI = 0) ∨ (what = 1 ∧ wI = 1) ∨ (what = 2 ∧ wI = 2) ∨ (what = 3 ∧ wI = 3) ∨ (what = 4 ∧ wI = 4) ∨ (what = 5 ∧ wI = 5) ∨ (what = 6 ∧ wI = 6) ∨ (what = 7 ∧ wI = 7)) {x k : Nat} {led : List (Addr × Obj)} (hled : ∀ p ∈ led, p ∈ news) (ux₀ : ULed led 264 x k)
    (hQ : ∀ r, oneOf 3 what (.lost k) = some r → ∀ v h' tk, VRel led 264 v r → Fr h₀ L h' m → News h₀ L h' news → Q v { s with heap := h', toks := tk })
    (hE : oneOf 3 what (.lost k) = none → ∀ e t h' G tk' vs, Fr h₀ L G m → RaisedS base G (envOf cn (SC nms more) L a ccd :: outer) e (.ref 67) t vs news h' → G.UpToSlots h' → E (.ref e) { s with heap := h', toks := tk' }) :
    wpAny (model PW w) (AT 540 gd (envOf cn (SC nms more) L a ccd) outer) (PySem.call (.ref 315) [.int wI t0, .ref x]) Q E s := by
  have ux := ux₀.mono hled
  obtain ⟨dx, nx, sx, hx, hdx⟩ := ux.data
  have hwI : wI = (what : Int) := by omega
  have hlt : what < 8 := by omega
  clear hw
  refine wpAny_call ?_
  k_enter
  k_steps
  all_goals (try ((rename RaisedS _ _ _ _ _ _ _ _ _ => hRN); refine noteIf_quiet XB hRN (by k_is) ?_; k_steps))
  · obtain rfl : what = 0 := by omega
    first | ((rename RaisedS _ _ _ _ _ _ _ _ _ => hRR); exact hE rfl _ _ _ _ _ _ (by assumption) hRR (by assumption)) | exact hQ _ rfl _ _ _ VRel.num (by assumption) (by assumption) | exact hQ _ rfl _ _ _ VRel.num (by assumption) (news_tail (by assumption)) | exact hQ _ rfl _ _ _ (VRel.lost ux₀) (by assumption) (by assumption)
  · obtain rfl : what = 1 := by omega
    first | ((rename RaisedS _ _ _ _ _ _ _ _ _ => hRR); exact hE rfl _ _ _ _ _ _ (by assumption) hRR (by assumption)) | exact hQ _ rfl _ _ _ VRel.num (by assumption) (by assumption) | exact hQ _ rfl _ _ _ VRel.num (by assumption) (news_tail (by assumption)) | exact hQ _ rfl _ _ _ (VRel.lost ux₀) (by assumption) (by assumption)
  · obtain rfl : what = 2 := by omega
    first | ((rename RaisedS _ _ _ _ _ _ _ _ _ => hRR); exact hE rfl _ _ _ _ _ _ (by assumption) hRR (by assumption)) | exact hQ _ rfl _ _ _ VRel.num (by assumption) (by assumption) | exact hQ _ rfl _ _ _ VRel.num (by assumption) (news_tail (by assumption)) | exact hQ _ rfl _ _ _ (VRel.lost ux₀) (by assumption) (by assumption)
  · obtain rfl : what = 3 := by omega
    first | ((rename RaisedS _ _ _ _ _ _ _ _ _ => hRR); exact hE rfl _ _ _ _ _ _ (by assumption) hRR (by assumption)) | exact hQ _ rfl _ _ _ VRel.num (by assumption) (by assumption) | exact hQ _ rfl _ _ _ VRel.num (by assumption) (news_tail (by assumption)) | exact hQ _ rfl _ _ _ (VRel.lost ux₀) (by assumption) (by assumption)
  · obtain rfl : what = 4 := by omega
    first | ((rename RaisedS _ _ _ _ _ _ _ _ _ => hRR); exact hE rfl _ _ _ _ _ _ (by assumption) hRR (by assumption)) | exact hQ _ rfl _ _ _ VRel.num (by assumption) (by assumption) | exact hQ _ rfl _ _ _ VRel.num (by assumption) (news_tail (by assumption)) | exact hQ _ rfl _ _ _ (VRel.lost ux₀) (by assumption) (by assumption)
  · obtain rfl : what = 5 := by omega
    first | ((rename RaisedS _ _ _ _ _ _ _ _ _ => hRR); exact hE rfl _ _ _ _ _ _ (by assumption) hRR (by assumption)) | exact hQ _ rfl _ _ _ VRel.num (by assumption) (by assumption) | exact hQ _ rfl _ _ _ VRel.num (by assumption) (news_tail (by assumption)) | exact hQ _ rfl _ _ _ (VRel.lost ux₀) (by assumption) (by assumption)
  · obtain rfl : what = 6 := by omega
    first | ((rename RaisedS _ _ _ _ _ _ _ _ _ => hRR); exact hE rfl _ _ _ _ _ _ (by assumption) hRR (by assumption)) | exact hQ _ rfl _ _ _ VRel.num (by assumption) (by assumption) | exact hQ _ rfl _ _ _ VRel.num (by assumption) (news_tail (by assumption)) | exact hQ _ rfl _ _ _ (VRel.lost ux₀) (by assumption) (by assumption)
  · obtain rfl : what = 7 := by omega
    first | ((rename RaisedS _ _ _ _ _ _ _ _ _ => hRR); exact hE rfl _ _ _ _ _ _ (by assumption) hRR (by assumption)) | exact hQ _ rfl _ _ _ VRel.num (by assumption) (by assumption) | exact hQ _ rfl _ _ _ VRel.num (by assumption) (news_tail (by assumption)) | exact hQ _ rfl _ _ _ (VRel.lost ux₀) (by assumption) (by assumption)
end
end Mine
end
section
theorem Mine.quiet_P2 : True := by
  w_top off
  trivial
open PySem PySem.W PySem.W.X PyProof.Rows PySem.Calls PyProof.V PySem.Spec
namespace Mine
theorem len_int {i : Int} (h : -1000 < i ∧ i < 1000) : (Str.ofString (toString i)).length ≤ 100 := by
  have pos : ∀ n : Fin 1000, (Str.ofString (toString (Int.ofNat n))).length ≤ 100 := by decide +kernel
  have neg : ∀ n : Fin 1000, (Str.ofString (toString (Int.negSucc n))).length ≤ 100 := by decide +kernel
  cases i with
  | ofNat n => exact pos ⟨n, by have : (n : Int) < 1000 := h.2; omega⟩
  | negSucc n => exact neg ⟨n, by have : -1000 < -((n : Int) + 1) := h.1; omega⟩
theorem one_ge {κ w : Nat} {i : Int} (h : 2 < w) : oneOf κ w (.num i) = some (.num i) := by
  rcases w with _ | _ | _ | w
  · omega
  · omega
  · omega
  · rfl
section
variable {w : World} {κ C : Nat} {mean : ExcName → Option Value} {mg mb : Str → Option Value} {gd : Option (List Code)} {cn : Str} {nms : List (Str × NameKind)} {more : List (Str × Const)} {a : Addr} {ccd : Value} {outer : List Env} {A₀ : Around} {base h₀ : Heap} {L : Addr} {m : Str → Option Value} {news : List (Addr × Obj)} {s : Shared} {Q E : Value → Shared → Prop}
local macro_rules | `(tactic| walk_at "call ref") => `(tactic| ((with_reducible show wpAny _ _ (PySem.call (Value.ref 287) _) _ _ _); k_dflt (refine' number_at ⟨rfl, Nat.le_of_ble_eq_true rfl, rfl, rfl, Nat.le_of_ble_eq_true rfl⟩ ?b ?f ?x ?n ?t ?l ?_; (case b => assumption); (case f => k_asm); (case x => assumption); (case n => k_asm); (case t => assumption); (case l => exact len_int (by assumption))); intro h' tk' t' F' N'; k_whole))
local macro_rules | `(tactic| walk_at "call ref") => `(tactic| ((with_reducible show wpAny _ _ (PySem.call (Value.ref 246) _) _ _ _); k_dflt (refine' str_at (Nat.le_of_ble_eq_true rfl) (Nat.le_of_ble_eq_true rfl) ?f ?x ?n ?u ?_; (case f => k_asm); (case x => assumption); (case n => k_asm); (case u => assumption)); intro h' tk' t' F' N'; (try dsimp only [PySem.W.StrBack]); k_whole))
local macro_rules | `(tactic| walk_at "call type:list") => `(tactic| ((with_reducible show wpAny _ _ (PySem.call (Value.type "list") [Value.ref _]) _ _ _); k_dflt (refine' list_at ?c rfl (Nat.le_of_ble_eq_true rfl) (Nat.le_of_ble_eq_true rfl) ?f ?x ?n ?u ?_; (case f => k_asm); (case x => assumption); (case n => k_asm); (case u => assumption); (case c => first | exact Or.inl rfl | exact Or.inr (Or.inl rfl) | exact Or.inr (Or.inr rfl))); intro h' tk' l' n' F' N'; k_whole))
local macro_rules | `(tactic| walk_at "call type:list") => `(tactic| ((with_reducible show wpAny _ _ (PySem.call (Value.type "list") [Value.ref _]) _ _ _); k_dflt (refine' list_at3 ?f ?x ?n ?u ?v ?i ?j ?_; (case f => k_asm); (case x => assumption); (case n => k_asm); (case u => assumption); (case v => assumption); (case i => k_is); (case j => k_is)); intro h' F' N'; k_whole))
local macro_rules | `(tactic| walk_at "getMethod ref") => `(tactic| ((with_reducible show wpAny _ _ (getMethod (Value.ref _) (PySem.Str.ofString "_fail_with_undefined_error") _) _ _ _); k_dflt (refine' getm_at ?f ?x ?n ?i ?a ?b ?c ?d ?_; (case f => k_asm); (case x => assumption); (case n => k_asm); (case i => k_inst); (case a => k_is); (case b => (refine' findObj_fn ?b1 ?b2 ?b3 ?b4 ?b5; (case b1 => k_is); (case b2 => k_is); (case b3 => k_is); (case b4 => k_is); (case b5 => decide))); (case c => k_is); (case d => k_is)); intro q' h' F' N' l'; (try k_lt l'); k_whole))
local macro_rules | `(tactic| walk_at "getAttr ref") => `(tactic| ((with_reducible show wpAny _ _ (getAttr (Value.ref _) (PySem.Str.ofString "colour") _) _ _ _); k_dflt (refine' get_hook ?x ?i ?a ?b ?c ?d ?_; (case x => k_in); (case i => k_inst); (case a => k_is); (case b => (refine' findObj_miss ?b1 ?b2 ?b3; (case b1 => k_is); (case b2 => k_is); (case b3 => decide))); (case c => k_is); (case d => k_is)); k_whole))
local macro_rules | `(tactic| walk_at "call ref") => `(tactic| ((with_reducible show wpAny _ _ (PySem.call (Value.ref _) []) _ _ _); k_dflt (refine' call_meth ?k1 ?k2 ?_; (case k1 => k_asm); (case k2 => k_mem); (refine' fail0c_at ⟨rfl, Nat.le_of_ble_eq_true rfl, rfl, rfl, Nat.le_of_ble_eq_true rfl⟩ ?b ?f ?x ?t ?d ?u ?c ?n ?s ?_; (case b => assumption); (case f => k_asm); (case x => assumption); (case t => assumption); (case d => first | exact dict_push (by assumption) (by assumption) | exact dict_push (by assumption) (dict_push (by assumption) (by assumption))); (case u => assumption); (case c => first | exact isU0 | exact isU1 | exact isU2 | exact isU3); (case n => k_asm); (case s => exact fun p hp => List.Mem.tail _ hp))); intro e t h' G tk' vs FG R U; k_whole))
local macro_rules | `(tactic| walk_at "call ref") => `(tactic| ((with_reducible show wpAny _ _ (PySem.call (Value.ref _) []) _ _ _); k_dflt (refine wpAny_call ?_; (refine' kco_code ?k1 ?k2 ?k3 ?k4 ?k5 ?k6 ?_; (case k1 => k_in); (case k2 => k_inst); (case k3 => rfl); (case k4 => k_is); (case k5 => k_is); (case k6 => k_is)); (refine' fail0c_at ⟨rfl, Nat.le_of_ble_eq_true rfl, rfl, rfl, Nat.le_of_ble_eq_true rfl⟩ ?b ?f ?x ?t ?d ?u ?c ?n ?s ?_; (case b => assumption); (case f => k_asm); (case x => assumption); (case t => assumption); (case d => first | exact dict_push (by assumption) (by assumption) | exact dict_push (by assumption) (dict_push (by assumption) (by assumption))); (case u => assumption); (case c => first | exact isU0 | exact isU1 | exact isU2 | exact isU3); (case n => k_asm); (case s => exact fun p hp => hp))); intro e t h' G tk' vs FG R U; k_whole))
set_option maxRecDepth 100000 in
set_option maxHeartbeats 4000000 in
theorem one_i (B : Below A₀ base outer h₀) (F : Fr h₀ L s.heap m) (X : (hd.heap_39 w.params).In h₀) (N : News h₀ L s.heap news) (T : Top hd.view_39 (looseW hd.view_39 LL) mean mg mb h₀) 
    (D : KtsDicts (outer.filterMap (·.frame)) h₀) {what : Nat} {wI : Int} {t0 t1 : Tok} (hw : (what = 0 ∧ wI = 0) ∨ (what = 1 ∧ wI = 1) ∨ (what = 2 ∧ wI = 2) ∨ (what = 3 ∧ wI = 3) ∨ (what = 4 ∧ wI = 4) ∨ (what = 5 ∧ wI = 5) ∨ (what = 6 ∧ wI = 6) ∨ (what = 7 ∧ wI = 7)) {i : Int} (hi : -1000 < i ∧ i < 1000) {led : List (Addr × Obj)}
    (hQ : ∀ r, oneOf κ what (.num i) = some r → ∀ v h' tk, VRel led C v r → Fr h₀ L h' m → News h₀ L h' news → Q v { s with heap := h', toks := tk }) :
    wpAny (model PW w) (AT 540 gd (envOf cn (SC nms more) L a ccd) outer) (PySem.call (.ref 315) [.int wI t0, .int i t1]) Q E s := by
  have hwI : wI = (what : Int) := by omega
  have hlt : what < 8 := by omega
  clear hw
  refine wpAny_call ?_
  k_enter
  k_steps
  · obtain rfl : what = 0 := by omega
    exact hQ _ rfl _ _ _ VRel.num (by assumption) (by assumption)
  · obtain rfl : what = 1 := by omega
    exact hQ (.num 0) (by show some (AV.num (if i = 0 then 1 else 0)) = _; rw [if_neg (by assumption)]) _ _ _ VRel.num (by assumption) (by assumption)
  · obtain rfl : what = 1 := by omega
    exact hQ (.num 1) (by show some (AV.num (if i = 0 then 1 else 0)) = _; rw [if_pos (by assumption)]) _ _ _ VRel.num (by assumption) (by assumption)
  · obtain rfl : what = 2 := by omega
    exact hQ _ rfl _ _ _ VRel.num (by assumption) (by assumption)
  · exact hQ (.num i) (one_ge (by omega)) _ _ _ VRel.num (by assumption) (by assumption)
set_option maxRecDepth 100000 in
set_option maxHeartbeats 4000000 in
theorem two_ii_done (B : Below A₀ base outer h₀) (F : Fr h₀ L s.heap m) (X : (hd.heap_39 w.params).In h₀) (N : News h₀ L s.heap news) (T : Top hd.view_39 (looseW hd.view_39 LL) mean mg mb h₀) 
    (D : KtsDicts (outer.filterMap (·.frame)) h₀) {what : Nat} {wI : Int} {t0 t1 t2 : Tok} (hw : (what = 0 ∧ wI = 0) ∨ (what = 1 ∧ wI = 1) ∨ (what = 2 ∧ wI = 2) ∨ (what = 3 ∧ wI = 3) ∨ (what = 4 ∧ wI = 4) ∨ (what = 5 ∧ wI = 5)) {i j : Int} (hi : -1000 < i ∧ i < 1000) (hj : -1000 < j ∧ j < 1000)
    (hQ : ∀ r, twoOf κ what (.num i) (.num j) = some r → ∀ h' tk t, Fr h₀ L h' m → News h₀ L h' news → Q (.int r t) { s with heap := h', toks := tk }) :
    wpAny (model PW w) (AT 540 gd (envOf cn (SC nms more) L a ccd) outer) (PySem.call (.ref 308) [.int wI t0, .int i t1, .int j t2]) Q E s := by
  have hwI : wI = (what : Int) := by omega
  have hlt : what < 6 := by omega
  clear hw
  refine wpAny_call ?_
  k_enter
  k_steps
  · obtain rfl : what = 0 := by omega
    exact hQ _ rfl _ _ _ (by assumption) (by assumption)
  · obtain rfl : what = 1 := by omega
    exact hQ _ rfl _ _ _ (by assumption) (by assumption)
  · obtain rfl : what = 2 := by omega
    exact hQ _ rfl _ _ _ (by assumption) (by assumption)
  · obtain rfl : what = 3 := by omega
    exact hQ 1 (by show some (if i < j then (1 : Int) else 0) = _; rw [if_pos (by assumption)]) _ _ _ (by assumption) (by assumption)
  · obtain rfl : what = 3 := by omega
    exact hQ 0 (by show some (if i < j then (1 : Int) else 0) = _; rw [if_neg (by assumption)]) _ _ _ (by assumption) (by assumption)
  · obtain rfl : what = 4 := by omega
    exact hQ 1 (by show some (if i = j then (1 : Int) else 0) = _; rw [if_pos (by assumption)]) _ _ _ (by assumption) (by assumption)
  · obtain rfl : what = 4 := by omega
    exact hQ 0 (by show some (if i = j then (1 : Int) else 0) = _; rw [if_neg (by assumption)]) _ _ _ (by assumption) (by assumption)
  · obtain rfl : what = 5 := by omega
    exact hQ 1 (by show some (if i ≠ j then (1 : Int) else 0) = _; rw [if_pos (by assumption)]) _ _ _ (by assumption) (by assumption)
  · obtain rfl : what = 5 := by omega
    exact hQ 0 (by show some (if i ≠ j then (1 : Int) else 0) = _; rw [if_neg (fun h => h (by assumption))]) _ _ _ (by assumption) (by assumption)
set_option maxRecDepth 100000 in
set_option maxHeartbeats 4000000 in
theorem two_ii_told (B : Below A₀ base outer h₀) (F : Fr h₀ L s.heap m) (X : (hd.heap_39 w.params).In h₀) (N : News h₀ L s.heap news) (T : Top hd.view_39 (looseW hd.view_39 LL) mean mg mb h₀) 
    (D : KtsDicts (outer.filterMap (·.frame)) h₀) {what : Nat} {wI : Int} {t0 t1 t2 : Tok} (hw : (what = 0 ∧ wI = 0) ∨ (what = 1 ∧ wI = 1) ∨ (what = 2 ∧ wI = 2) ∨ (what = 3 ∧ wI = 3) ∨ (what = 4 ∧ wI = 4) ∨ (what = 5 ∧ wI = 5)) {i j : Int} (hi : -1000 < i ∧ i < 1000) (hj : -1000 < j ∧ j < 1000)
    (hQ : ∀ r, twoOf κ what (.num i) (.num j) = some r → ∀ h' tk t, Fr h₀ L h' m → News h₀ L h' news → Q (.int r t) { s with heap := h', toks := tk }) :
    wpAny (model PW w) (AT 540 gd (envOf cn (SC nms more) L a ccd) outer) (PySem.call (.ref 301) [.int wI t0, .int i t1, .int j t2]) Q E s := by
  have hwI : wI = (what : Int) := by omega
  have hlt : what < 6 := by omega
  clear hw
  refine wpAny_call ?_
  k_enter
  k_steps
  · obtain rfl : what = 0 := by omega
    exact hQ _ rfl _ _ _ (by assumption) (by assumption)
  · obtain rfl : what = 1 := by omega
    exact hQ _ rfl _ _ _ (by assumption) (by assumption)
  · obtain rfl : what = 2 := by omega
    exact hQ _ rfl _ _ _ (by assumption) (by assumption)
  · obtain rfl : what = 3 := by omega
    exact hQ 1 (by show some (if i < j then (1 : Int) else 0) = _; rw [if_pos (by assumption)]) _ _ _ (by assumption) (by assumption)
  · obtain rfl : what = 3 := by omega
    exact hQ 0 (by show some (if i < j then (1 : Int) else 0) = _; rw [if_neg (by assumption)]) _ _ _ (by assumption) (by assumption)
  · obtain rfl : what = 4 := by omega
    exact hQ 1 (by show some (if i = j then (1 : Int) else 0) = _; rw [if_pos (by assumption)]) _ _ _ (by assumption) (by assumption)
  · obtain rfl : what = 4 := by omega
    exact hQ 0 (by show some (if i = j then (1 : Int) else 0) = _; rw [if_neg (by assumption)]) _ _ _ (by assumption) (by assumption)
  · obtain rfl : what = 5 := by omega
    exact hQ 1 (by show some (if i ≠ j then (1 : Int) else 0) = _; rw [if_pos (by assumption)]) _ _ _ (by assumption) (by assumption)
  · obtain rfl : what = 5 := by omega
    exact hQ 0 (by show some (if i ≠ j then (1 : Int) else 0) = _; rw [if_neg (fun h => h (by assumption))]) _ _ _ (by assumption) (by assumption)
end
end Mine
end
section
theorem Mine.quiet_O2 : True := by
  w_top off
  trivial
open PySem PySem.W PySem.W.X PyProof.Rows PySem.Calls PyProof.V PySem.Spec
namespace Mine
section
variable {w : World} {mean : ExcName → Option Value} {mg mb : Str → Option Value} {gd : Option (List Code)} {cn : Str} {nms : List (Str × NameKind)} {more : List (Str × Const)} {a : Addr} {ccd : Value} {outer : List Env} {A₀ : Around} {base h₀ : Heap} {L : Addr} {m : Str → Option Value} {news : List (Addr × Obj)} {s : Shared} {Q E : Value → Shared → Prop}
local macro_rules | `(tactic| walk_at "call ref") => `(tactic| ((with_reducible show wpAny _ _ (PySem.call (Value.ref 130) _) _ _ _); k_dflt (refine' fail1_at ⟨rfl, Nat.le_of_ble_eq_true rfl, rfl, rfl, Nat.le_of_ble_eq_true rfl⟩ ?b ?f ?x ?t ?d ?u ?c ?n ?s ?_; (case b => assumption); (case f => k_asm); (case x => assumption); (case t => assumption); (case d => exact dict_push (by assumption) (by assumption)); (case u => assumption); (case c => first | exact isU0 | exact isU1 | exact isU2 | exact isU3); (case n => k_asm); (case s => exact fun p hp => hp)); intro e t h' G tk' vs FG R U; k_whole))
local macro_rules | `(tactic| walk_at "call ref") => `(tactic| ((with_reducible show wpAny _ _ (PySem.call (Value.ref 130) _) _ _ _); k_dflt (refine' fail0_at ⟨rfl, Nat.le_of_ble_eq_true rfl, rfl, rfl, Nat.le_of_ble_eq_true rfl⟩ ?b ?f ?x ?t ?d ?u ?c ?n ?s ?_; (case b => assumption); (case f => k_asm); (case x => assumption); (case t => assumption); (case d => exact dict_push (by assumption) (by assumption)); (case u => assumption); (case c => first | exact isU0 | exact isU1 | exact isU2 | exact isU3); (case n => k_asm); (case s => exact fun p hp => hp)); intro e t h' G tk' vs FG R U; k_whole))
local macro_rules | `(tactic| walk_at "call ref") => `(tactic| ((with_reducible show wpAny _ _ (PySem.call (Value.ref 151) _) _ _ _); k_dflt (refine' ne_at_i_197 (Nat.le_of_ble_eq_true rfl) (Nat.le_of_ble_eq_true rfl) ?f ?x ?n ?u ?_; (case f => k_asm); (case x => assumption); (case n => k_asm); (case u => assumption); skip); intro h' tk' F' N'; (try dsimp only [PySem.W.CmpBack]); k_whole))
local macro_rules | `(tactic| walk_at "call ref") => `(tactic| ((with_reducible show wpAny _ _ (PySem.call (Value.ref 151) _) _ _ _); k_dflt (refine' ne_at_u_197 (Nat.le_of_ble_eq_true rfl) (Nat.le_of_ble_eq_true rfl) ?f ?x ?n ?u ?v ?_; (case f => k_asm); (case x => assumption); (case n => k_asm); (case u => assumption); (case v => assumption)); intro h' tk' F' N'; (try dsimp only [PySem.W.CmpBack]); k_whole))
local macro_rules | `(tactic| walk_at "call ref") => `(tactic| ((with_reducible show wpAny _ _ (PySem.call (Value.ref 151) _) _ _ _); k_dflt (refine' ne_at_i_229 (Nat.le_of_ble_eq_true rfl) (Nat.le_of_ble_eq_true rfl) ?f ?x ?n ?u ?_; (case f => k_asm); (case x => assumption); (case n => k_asm); (case u => assumption); skip); intro h' tk' F' N'; (try dsimp only [PySem.W.CmpBack]); k_whole))
local macro_rules | `(tactic| walk_at "call ref") => `(tactic| ((with_reducible show wpAny _ _ (PySem.call (Value.ref 151) _) _ _ _); k_dflt (refine' ne_at_u_229 (Nat.le_of_ble_eq_true rfl) (Nat.le_of_ble_eq_true rfl) ?f ?x ?n ?u ?v ?_; (case f => k_asm); (case x => assumption); (case n => k_asm); (case u => assumption); (case v => assumption)); intro h' tk' F' N'; (try dsimp only [PySem.W.CmpBack]); k_whole))
local macro_rules | `(tactic| walk_at "call ref") => `(tactic| ((with_reducible show wpAny _ _ (PySem.call (Value.ref 151) _) _ _ _); k_dflt (refine' ne_at_i_250 (Nat.le_of_ble_eq_true rfl) (Nat.le_of_ble_eq_true rfl) ?f ?x ?n ?u ?_; (case f => k_asm); (case x => assumption); (case n => k_asm); (case u => assumption); skip); intro h' tk' F' N'; (try dsimp only [PySem.W.CmpBack]); k_whole))
local macro_rules | `(tactic| walk_at "call ref") => `(tactic| ((with_reducible show wpAny _ _ (PySem.call (Value.ref 151) _) _ _ _); k_dflt (refine' ne_at_u_250 (Nat.le_of_ble_eq_true rfl) (Nat.le_of_ble_eq_true rfl) ?f ?x ?n ?u ?v ?_; (case f => k_asm); (case x => assumption); (case n => k_asm); (case u => assumption); (case v => assumption)); intro h' tk' F' N'; (try dsimp only [PySem.W.CmpBack]); k_whole))
local macro_rules | `(tactic| walk_at "binaryOp Add int ref") => `(tactic| ((with_reducible show wpAny _ _ (binaryOp Operator.Add (Value.int _ _) (Value.ref _)) _ _ _); k_dflt (refine' rbin ?F ?X ?I ?p PySem.F.fills_int_add PySem.F.slot_int_add PySem.F.entry_int_add (PySem.F.args_int_add_2 _ _) (fun c dd sl => dec_add _ _ _ c dd sl) ?c ?s ?r ?f ?u ?_; (case F => k_asm); (case X => k_asm); (case I => k_inst); (case p => exact rfl); (case c => k_is); (case s => k_is); (case r => k_is); (case f => k_is); (case u => k_is); k_whole)))
local macro_rules | `(tactic| walk_at "binaryOp Sub int ref") => `(tactic| ((with_reducible show wpAny _ _ (binaryOp Operator.Sub (Value.int _ _) (Value.ref _)) _ _ _); k_dflt (refine' rbin ?F ?X ?I ?p PySem.F.fills_int_sub PySem.F.slot_int_sub PySem.F.entry_int_sub (PySem.F.args_int_sub_2 _ _) (fun c dd sl => dec_sub _ _ _ c dd sl) ?c ?s ?r ?f ?u ?_; (case F => k_asm); (case X => k_asm); (case I => k_inst); (case p => exact rfl); (case c => k_is); (case s => k_is); (case r => k_is); (case f => k_is); (case u => k_is); k_whole)))
local macro_rules | `(tactic| walk_at "binaryOp Mult int ref") => `(tactic| ((with_reducible show wpAny _ _ (binaryOp Operator.Mult (Value.int _ _) (Value.ref _)) _ _ _); k_dflt (refine' rbin ?F ?X ?I ?p PySem.F.fills_int_mul PySem.F.slot_int_mul PySem.F.entry_int_mul (PySem.F.args_int_mul_2 _ _) (fun c dd sl => dec_mul _ _ _ c dd sl) ?c ?s ?r ?f ?u ?_; (case F => k_asm); (case X => k_asm); (case I => k_inst); (case p => exact rfl); (case c => k_is); (case s => k_is); (case r => k_is); (case f => k_is); (case u => k_is); k_whole)))
local macro_rules | `(tactic| walk_at "compareOp Lt int ref") => `(tactic| ((with_reducible show wpAny _ _ (compareOp CmpOp.Lt (Value.int _ _) (Value.ref _)) _ _ _); k_dflt (refine' rcmp ?U ?F ?X ?I ?p PySem.F.slot_int_lt PySem.F.entry_int_lt (PySem.F.args_int_lt_2 _ _) (fun c dd sl => dec_lt _ _ _ c dd sl) ?r ?f ?u ?_ rfl; (case U => k_units); (case F => k_asm); (case X => k_asm); (case I => k_inst); (case p => exact rfl); (case r => k_is); (case f => k_is); (case u => k_is); k_whole)))
local macro_rules | `(tactic| walk_at "compareOp Eq int ref") => `(tactic| ((with_reducible show wpAny _ _ (compareOp CmpOp.Eq (Value.int _ _) (Value.ref _)) _ _ _); k_dflt (refine' rcmp ?U ?F ?X ?I ?p PySem.F.slot_int_eq PySem.F.entry_int_eq (PySem.F.args_int_eq_2 _ _) (fun c dd sl => dec_eq _ _ _ c dd sl) ?r ?f ?u ?_ rfl; (case U => k_units); (case F => k_asm); (case X => k_asm); (case I => k_inst); (case p => exact rfl); (case r => k_is); (case f => k_is); (case u => k_is); k_whole)))
local macro_rules | `(tactic| walk_at "compareOp NotEq int ref") => `(tactic| ((with_reducible show wpAny _ _ (compareOp CmpOp.NotEq (Value.int _ _) (Value.ref _)) _ _ _); k_dflt (refine' rcmp ?U ?F ?X ?I ?p PySem.F.slot_int_ne PySem.F.entry_int_ne (PySem.F.args_int_ne_2 _ _) (fun c dd sl => dec_ne _ _ _ c dd sl) ?r ?f ?u ?_ rfl; (case U => k_units); (case F => k_asm); (case X => k_asm); (case I => k_inst); (case p => exact rfl); (case r => k_is); (case f => k_is); (case u => k_is); k_whole)))
set_option maxRecDepth 100000 in
set_option maxHeartbeats 4000000 in
theorem two_uu_0 (B : Below A₀ base outer h₀) (F : Fr h₀ L s.heap m) (X : (hd.heap_39 w.params).In h₀) (N : News h₀ L s.heap news) (T : Top hd.view_39 (looseW hd.view_39 LL) mean mg mb h₀) 
    (D : KtsDicts (outer.filterMap (·.frame)) h₀) {what : Nat} {wI : Int} {t0 : Tok} (hw : (what = 0 ∧ wI = 0) ∨ (what = 1 ∧ wI = 1) ∨ (what = 2 ∧ wI = 2) ∨ (what = 3 ∧ wI = 3) ∨ (what = 4 ∧ wI = 4) ∨ (what = 5 ∧ wI = 5)) {x k : Nat} (ux : ULed news 197 x k) {y l : Nat} (uy : ULed news 197 y l)
    (hQ : ∀ r, twoOf 0 what (.lost k) (.lost l) = some r → ∀ h' tk t, Fr h₀ L h' m → News h₀ L h' news → Q (.int r t) { s with heap := h', toks := tk })
    (hE : twoOf 0 what (.lost k) (.lost l) = none → ∀ e t h' G tk' vs, Fr h₀ L G m → RaisedS base G (envOf cn (SC nms more) L a ccd :: outer) e (.ref 67) t vs news h' → G.UpToSlots h' → E (.ref e) { s with heap := h', toks := tk' }) :
    wpAny (model PW w) (AT 540 gd (envOf cn (SC nms more) L a ccd) outer) (PySem.call (.ref 308) [.int wI t0, .ref x, .ref y]) Q E s := by
  obtain ⟨dx, nx, sx, hx, hdx⟩ := ux.data
  obtain ⟨dy, ny, sy, hy, hdy⟩ := uy.data
  have hwI : wI = (what : Int) := by omega
  have hlt : what < 6 := by omega
  clear hw
  refine wpAny_call ?_
  k_enter
  k_steps
  · obtain rfl : what = 0 := by omega
    first | ((rename RaisedS _ _ _ _ _ _ _ _ _ => hRR); exact hE rfl _ _ _ _ _ _ (by assumption) hRR (by assumption)) | exact hQ _ rfl _ _ _ (by assumption) (by assumption)
  · obtain rfl : what = 1 := by omega
    first | ((rename RaisedS _ _ _ _ _ _ _ _ _ => hRR); exact hE rfl _ _ _ _ _ _ (by assumption) hRR (by assumption)) | exact hQ _ rfl _ _ _ (by assumption) (by assumption)
  · obtain rfl : what = 2 := by omega
    first | ((rename RaisedS _ _ _ _ _ _ _ _ _ => hRR); exact hE rfl _ _ _ _ _ _ (by assumption) hRR (by assumption)) | exact hQ _ rfl _ _ _ (by assumption) (by assumption)
  · obtain rfl : what = 3 := by omega
    first | ((rename RaisedS _ _ _ _ _ _ _ _ _ => hRR); exact hE rfl _ _ _ _ _ _ (by assumption) hRR (by assumption)) | exact hQ _ rfl _ _ _ (by assumption) (by assumption)
  · obtain rfl : what = 4 := by omega
    first | ((rename RaisedS _ _ _ _ _ _ _ _ _ => hRR); exact hE rfl _ _ _ _ _ _ (by assumption) hRR (by assumption)) | exact hQ _ rfl _ _ _ (by assumption) (by assumption)
  · obtain rfl : what = 5 := by omega
    first | ((rename RaisedS _ _ _ _ _ _ _ _ _ => hRR); exact hE rfl _ _ _ _ _ _ (by assumption) hRR (by assumption)) | exact hQ _ rfl _ _ _ (by assumption) (by assumption)
set_option maxRecDepth 100000 in
set_option maxHeartbeats 4000000 in
theorem two_ui_0 (B : Below A₀ base outer h₀) (F : Fr h₀ L s.heap m) (X : (hd.heap_39 w.params).In h₀) (N : News h₀ L s.heap news) (T : Top hd.view_39 (looseW hd.view_39 LL) mean mg mb h₀) 
    (D : KtsDicts (outer.filterMap (·.frame)) h₀) {what : Nat} {wI : Int} {t0 : Tok} (hw : (what = 0 ∧ wI = 0) ∨ (what = 1 ∧ wI = 1) ∨ (what = 2 ∧ wI = 2) ∨ (what = 3 ∧ wI = 3) ∨ (what = 4 ∧ wI = 4) ∨ (what = 5 ∧ wI = 5)) {x k : Nat} (ux : ULed news 197 x k) {j : Int} {t2 : Tok}
    (hQ : ∀ r, twoOf 0 what (.lost k) (.num j) = some r → ∀ h' tk t, Fr h₀ L h' m → News h₀ L h' news → Q (.int r t) { s with heap := h', toks := tk })
    (hE : twoOf 0 what (.lost k) (.num j) = none → ∀ e t h' G tk' vs, Fr h₀ L G m → RaisedS base G (envOf cn (SC nms more) L a ccd :: outer) e (.ref 67) t vs news h' → G.UpToSlots h' → E (.ref e) { s with heap := h', toks := tk' }) :
    wpAny (model PW w) (AT 540 gd (envOf cn (SC nms more) L a ccd) outer) (PySem.call (.ref 308) [.int wI t0, .ref x, .int j t2]) Q E s := by
  obtain ⟨dx, nx, sx, hx, hdx⟩ := ux.data
  have hwI : wI = (what : Int) := by omega
  have hlt : what < 6 := by omega
  clear hw
  refine wpAny_call ?_
  k_enter
  k_steps
  · obtain rfl : what = 0 := by omega
    first | ((rename RaisedS _ _ _ _ _ _ _ _ _ => hRR); exact hE rfl _ _ _ _ _ _ (by assumption) hRR (by assumption)) | exact hQ _ rfl _ _ _ (by assumption) (by assumption)
  · obtain rfl : what = 1 := by omega
    first | ((rename RaisedS _ _ _ _ _ _ _ _ _ => hRR); exact hE rfl _ _ _ _ _ _ (by assumption) hRR (by assumption)) | exact hQ _ rfl _ _ _ (by assumption) (by assumption)
  · obtain rfl : what = 2 := by omega
    first | ((rename RaisedS _ _ _ _ _ _ _ _ _ => hRR); exact hE rfl _ _ _ _ _ _ (by assumption) hRR (by assumption)) | exact hQ _ rfl _ _ _ (by assumption) (by assumption)
  · obtain rfl : what = 3 := by omega
    first | ((rename RaisedS _ _ _ _ _ _ _ _ _ => hRR); exact hE rfl _ _ _ _ _ _ (by assumption) hRR (by assumption)) | exact hQ _ rfl _ _ _ (by assumption) (by assumption)
  · obtain rfl : what = 4 := by omega
    first | ((rename RaisedS _ _ _ _ _ _ _ _ _ => hRR); exact hE rfl _ _ _ _ _ _ (by assumption) hRR (by assumption)) | exact hQ _ rfl _ _ _ (by assumption) (by assumption)
  · obtain rfl : what = 5 := by omega
    first | ((rename RaisedS _ _ _ _ _ _ _ _ _ => hRR); exact hE rfl _ _ _ _ _ _ (by assumption) hRR (by assumption)) | exact hQ _ rfl _ _ _ (by assumption) (by assumption)
set_option maxRecDepth 100000 in
set_option maxHeartbeats 4000000 in
theorem two_iu_0 (B : Below A₀ base outer h₀) (F : Fr h₀ L s.heap m) (X : (hd.heap_39 w.params).In h₀) (N : News h₀ L s.heap news) (T : Top hd.view_39 (looseW hd.view_39 LL) mean mg mb h₀) 
    (D : KtsDicts (outer.filterMap (·.frame)) h₀) {what : Nat} {wI : Int} {t0 : Tok} (hw : (what = 0 ∧ wI = 0) ∨ (what = 1 ∧ wI = 1) ∨ (what = 2 ∧ wI = 2) ∨ (what = 3 ∧ wI = 3) ∨ (what = 4 ∧ wI = 4) ∨ (what = 5 ∧ wI = 5)) {i : Int} {t1 : Tok} {y l : Nat} (uy : ULed news 197 y l)
    (hQ : ∀ r, twoOf 0 what (.num i) (.lost l) = some r → ∀ h' tk t, Fr h₀ L h' m → News h₀ L h' news → Q (.int r t) { s with heap := h', toks := tk })
    (hE : twoOf 0 what (.num i) (.lost l) = none → ∀ e t h' G tk' vs, Fr h₀ L G m → RaisedS base G (envOf cn (SC nms more) L a ccd :: outer) e (.ref 67) t vs news h' → G.UpToSlots h' → E (.ref e) { s with heap := h', toks := tk' }) :
    wpAny (model PW w) (AT 540 gd (envOf cn (SC nms more) L a ccd) outer) (PySem.call (.ref 308) [.int wI t0, .int i t1, .ref y]) Q E s := by
  obtain ⟨dy, ny, sy, hy, hdy⟩ := uy.data
  have hwI : wI = (what : Int) := by omega
  have hlt : what < 6 := by omega
  clear hw
  refine wpAny_call ?_
  k_enter
  k_steps
  · obtain rfl : what = 0 := by omega
    first | ((rename RaisedS _ _ _ _ _ _ _ _ _ => hRR); exact hE rfl _ _ _ _ _ _ (by assumption) hRR (by assumption)) | exact hQ _ rfl _ _ _ (by assumption) (by assumption)
  · obtain rfl : what = 1 := by omega
    first | ((rename RaisedS _ _ _ _ _ _ _ _ _ => hRR); exact hE rfl _ _ _ _ _ _ (by assumption) hRR (by assumption)) | exact hQ _ rfl _ _ _ (by assumption) (by assumption)
  · obtain rfl : what = 2 := by omega
    first | ((rename RaisedS _ _ _ _ _ _ _ _ _ => hRR); exact hE rfl _ _ _ _ _ _ (by assumption) hRR (by assumption)) | exact hQ _ rfl _ _ _ (by assumption) (by assumption)
  · obtain rfl : what = 3 := by omega
    first | ((rename RaisedS _ _ _ _ _ _ _ _ _ => hRR); exact hE rfl _ _ _ _ _ _ (by assumption) hRR (by assumption)) | exact hQ _ rfl _ _ _ (by assumption) (by assumption)
  · obtain rfl : what = 4 := by omega
    first | ((rename RaisedS _ _ _ _ _ _ _ _ _ => hRR); exact hE rfl _ _ _ _ _ _ (by assumption) hRR (by assumption)) | exact hQ _ rfl _ _ _ (by assumption) (by assumption)
  · obtain rfl : what = 5 := by omega
    first | ((rename RaisedS _ _ _ _ _ _ _ _ _ => hRR); exact hE rfl _ _ _ _ _ _ (by assumption) hRR (by assumption)) | exact hQ _ rfl _ _ _ (by assumption) (by assumption)
set_option maxRecDepth 100000 in
set_option maxHeartbeats 4000000 in
theorem two_uu_1 (B : Below A₀ base outer h₀) (F : Fr h₀ L s.heap m) (X : (hd.heap_39 w.params).In h₀) (N : News h₀ L s.heap news) (T : Top hd.view_39 (looseW hd.view_39 LL) mean mg mb h₀) 
    (D : KtsDicts (outer.filterMap (·.frame)) h₀) {what : Nat} {wI : Int} {t0 : Tok} (hw : (what = 0 ∧ wI = 0) ∨ (what = 1 ∧ wI = 1) ∨ (what = 2 ∧ wI = 2) ∨ (what = 3 ∧ wI = 3) ∨ (what = 4 ∧ wI = 4) ∨ (what = 5 ∧ wI = 5)) {x k : Nat} (ux : ULed news 229 x k) {y l : Nat} (uy : ULed news 229 y l)
    (hQ : ∀ r, twoOf 1 what (.lost k) (.lost l) = some r → ∀ h' tk t, Fr h₀ L h' m → News h₀ L h' news → Q (.int r t) { s with heap := h', toks := tk })
    (hE : twoOf 1 what (.lost k) (.lost l) = none → ∀ e t h' G tk' vs, Fr h₀ L G m → RaisedS base G (envOf cn (SC nms more) L a ccd :: outer) e (.ref 67) t vs news h' → G.UpToSlots h' → E (.ref e) { s with heap := h', toks := tk' }) :
    wpAny (model PW w) (AT 540 gd (envOf cn (SC nms more) L a ccd) outer) (PySem.call (.ref 308) [.int wI t0, .ref x, .ref y]) Q E s := by
  obtain ⟨dx, nx, sx, hx, hdx⟩ := ux.data
  obtain ⟨dy, ny, sy, hy, hdy⟩ := uy.data
  have hwI : wI = (what : Int) := by omega
  have hlt : what < 6 := by omega
  clear hw
  refine wpAny_call ?_
  k_enter
  k_steps
  · obtain rfl : what = 0 := by omega
    first | ((rename RaisedS _ _ _ _ _ _ _ _ _ => hRR); exact hE rfl _ _ _ _ _ _ (by assumption) hRR (by assumption)) | exact hQ _ rfl _ _ _ (by assumption) (by assumption)
  · obtain rfl : what = 1 := by omega
    first | ((rename RaisedS _ _ _ _ _ _ _ _ _ => hRR); exact hE rfl _ _ _ _ _ _ (by assumption) hRR (by assumption)) | exact hQ _ rfl _ _ _ (by assumption) (by assumption)
  · obtain rfl : what = 2 := by omega
    first | ((rename RaisedS _ _ _ _ _ _ _ _ _ => hRR); exact hE rfl _ _ _ _ _ _ (by assumption) hRR (by assumption)) | exact hQ _ rfl _ _ _ (by assumption) (by assumption)
  · obtain rfl : what = 3 := by omega
    first | ((rename RaisedS _ _ _ _ _ _ _ _ _ => hRR); exact hE rfl _ _ _ _ _ _ (by assumption) hRR (by assumption)) | exact hQ _ rfl _ _ _ (by assumption) (by assumption)
  · obtain rfl : what = 4 := by omega
    first | ((rename RaisedS _ _ _ _ _ _ _ _ _ => hRR); exact hE rfl _ _ _ _ _ _ (by assumption) hRR (by assumption)) | exact hQ _ rfl _ _ _ (by assumption) (by assumption)
  · obtain rfl : what = 5 := by omega
    first | ((rename RaisedS _ _ _ _ _ _ _ _ _ => hRR); exact hE rfl _ _ _ _ _ _ (by assumption) hRR (by assumption)) | exact hQ _ rfl _ _ _ (by assumption) (by assumption)
set_option maxRecDepth 100000 in
set_option maxHeartbeats 4000000 in
theorem two_ui_1 (B : Below A₀ base outer h₀) (F : Fr h₀ L s.heap m) (X : (hd.heap_39 w.params).In h₀) (N : News h₀ L s.heap news) (T : Top hd.view_39 (looseW hd.view_39 LL) mean mg mb h₀) 
    (D : KtsDicts (outer.filterMap (·.frame)) h₀) {what : Nat} {wI : Int} {t0 : Tok} (hw : (what = 0 ∧ wI = 0) ∨ (what = 1 ∧ wI = 1) ∨ (what = 2 ∧ wI = 2) ∨ (what = 3 ∧ wI = 3) ∨ (what = 4 ∧ wI = 4) ∨ (what = 5 ∧ wI = 5)) {x k : Nat} (ux : ULed news 229 x k) {j : Int} {t2 : Tok}
    (hQ : ∀ r, twoOf 1 what (.lost k) (.num j) = some r → ∀ h' tk t, Fr h₀ L h' m → News h₀ L h' news → Q (.int r t) { s with heap := h', toks := tk })
    (hE : twoOf 1 what (.lost k) (.num j) = none → ∀ e t h' G tk' vs, Fr h₀ L G m → RaisedS base G (envOf cn (SC nms more) L a ccd :: outer) e (.ref 67) t vs news h' → G.UpToSlots h' → E (.ref e) { s with heap := h', toks := tk' }) :
    wpAny (model PW w) (AT 540 gd (envOf cn (SC nms more) L a ccd) outer) (PySem.call (.ref 308) [.int wI t0, .ref x, .int j t2]) Q E s := by
  obtain ⟨dx, nx, sx, hx, hdx⟩ := ux.data
  have hwI : wI = (what : Int) := by omega
  have hlt : what < 6 := by omega
  clear hw
  refine wpAny_call ?_
  k_enter
  k_steps
  · obtain rfl : what = 0 := by omega
    first | ((rename RaisedS _ _ _ _ _ _ _ _ _ => hRR); exact hE rfl _ _ _ _ _ _ (by assumption) hRR (by assumption)) | exact hQ _ rfl _ _ _ (by assumption) (by assumption)
  · obtain rfl : what = 1 := by omega
    first | ((rename RaisedS _ _ _ _ _ _ _ _ _ => hRR); exact hE rfl _ _ _ _ _ _ (by assumption) hRR (by assumption)) | exact hQ _ rfl _ _ _ (by assumption) (by assumption)
  · obtain rfl : what = 2 := by omega
    first | ((rename RaisedS _ _ _ _ _ _ _ _ _ => hRR); exact hE rfl _ _ _ _ _ _ (by assumption) hRR (by assumption)) | exact hQ _ rfl _ _ _ (by assumption) (by assumption)
  · obtain rfl : what = 3 := by omega
    first | ((rename RaisedS _ _ _ _ _ _ _ _ _ => hRR); exact hE rfl _ _ _ _ _ _ (by assumption) hRR (by assumption)) | exact hQ _ rfl _ _ _ (by assumption) (by assumption)
  · obtain rfl : what = 4 := by omega
    first | ((rename RaisedS _ _ _ _ _ _ _ _ _ => hRR); exact hE rfl _ _ _ _ _ _ (by assumption) hRR (by assumption)) | exact hQ _ rfl _ _ _ (by assumption) (by assumption)
  · obtain rfl : what = 5 := by omega
    first | ((rename RaisedS _ _ _ _ _ _ _ _ _ => hRR); exact hE rfl _ _ _ _ _ _ (by assumption) hRR (by assumption)) | exact hQ _ rfl _ _ _ (by assumption) (by assumption)
set_option maxRecDepth 100000 in
set_option maxHeartbeats 4000000 in
theorem two_iu_1 (B : Below A₀ base outer h₀) (F : Fr h₀ L s.heap m) (X : (hd.heap_39 w.params).In h₀) (N : News h₀ L s.heap news) (T : Top hd.view_39 (looseW hd.view_39 LL) mean mg mb h₀) 
    (D : KtsDicts (outer.filterMap (·.frame)) h₀) {what : Nat} {wI : Int} {t0 : Tok} (hw : (what = 0 ∧ wI = 0) ∨ (what = 1 ∧ wI = 1) ∨ (what = 2 ∧ wI = 2) ∨ (what = 3 ∧ wI = 3) ∨ (what = 4 ∧ wI = 4) ∨ (what = 5 ∧ wI = 5)) {i : Int} {t1 : Tok} {y l : Nat} (uy : ULed news 229 y l)
    (hQ : ∀ r, twoOf 1 what (.num i) (.lost l) = some r → ∀ h' tk t, Fr h₀ L h' m → News h₀ L h' news → Q (.int r t) { s with heap := h', toks := tk })
    (hE : twoOf 1 what (.num i) (.lost l) = none → ∀ e t h' G tk' vs, Fr h₀ L G m → RaisedS base G (envOf cn (SC nms more) L a ccd :: outer) e (.ref 67) t vs news h' → G.UpToSlots h' → E (.ref e) { s with heap := h', toks := tk' }) :
    wpAny (model PW w) (AT 540 gd (envOf cn (SC nms more) L a ccd) outer) (PySem.call (.ref 308) [.int wI t0, .int i t1, .ref y]) Q E s := by
  obtain ⟨dy, ny, sy, hy, hdy⟩ := uy.data
  have hwI : wI = (what : Int) := by omega
  have hlt : what < 6 := by omega
  clear hw
  refine wpAny_call ?_
  k_enter
  k_steps
  · obtain rfl : what = 0 := by omega
    first | ((rename RaisedS _ _ _ _ _ _ _ _ _ => hRR); exact hE rfl _ _ _ _ _ _ (by assumption) hRR (by assumption)) | exact hQ _ rfl _ _ _ (by assumption) (by assumption)
  · obtain rfl : what = 1 := by omega
    first | ((rename RaisedS _ _ _ _ _ _ _ _ _ => hRR); exact hE rfl _ _ _ _ _ _ (by assumption) hRR (by assumption)) | exact hQ _ rfl _ _ _ (by assumption) (by assumption)
  · obtain rfl : what = 2 := by omega
    first | ((rename RaisedS _ _ _ _ _ _ _ _ _ => hRR); exact hE rfl _ _ _ _ _ _ (by assumption) hRR (by assumption)) | exact hQ _ rfl _ _ _ (by assumption) (by assumption)
  · obtain rfl : what = 3 := by omega
    first | ((rename RaisedS _ _ _ _ _ _ _ _ _ => hRR); exact hE rfl _ _ _ _ _ _ (by assumption) hRR (by assumption)) | exact hQ _ rfl _ _ _ (by assumption) (by assumption)
  · obtain rfl : what = 4 := by omega
    first | ((rename RaisedS _ _ _ _ _ _ _ _ _ => hRR); exact hE rfl _ _ _ _ _ _ (by assumption) hRR (by assumption)) | exact hQ _ rfl _ _ _ (by assumption) (by assumption)
  · obtain rfl : what = 5 := by omega
    first | ((rename RaisedS _ _ _ _ _ _ _ _ _ => hRR); exact hE rfl _ _ _ _ _ _ (by assumption) hRR (by assumption)) | exact hQ _ rfl _ _ _ (by assumption) (by assumption)
set_option maxRecDepth 100000 in
set_option maxHeartbeats 4000000 in
theorem two_uu_2 (B : Below A₀ base outer h₀) (F : Fr h₀ L s.heap m) (X : (hd.heap_39 w.params).In h₀) (N : News h₀ L s.heap news) (T : Top hd.view_39 (looseW hd.view_39 LL) mean mg mb h₀) 
    (D : KtsDicts (outer.filterMap (·.frame)) h₀) {what : Nat} {wI : Int} {t0 : Tok} (hw : (what = 0 ∧ wI = 0) ∨ (what = 1 ∧ wI = 1) ∨ (what = 2 ∧ wI = 2) ∨ (what = 3 ∧ wI = 3) ∨ (what = 4 ∧ wI = 4) ∨ (what = 5 ∧ wI = 5)) {x k : Nat} (ux : ULed news 250 x k) {y l : Nat} (uy : ULed news 250 y l)
    (hQ : ∀ r, twoOf 2 what (.lost k) (.lost l) = some r → ∀ h' tk t, Fr h₀ L h' m → News h₀ L h' news → Q (.int r t) { s with heap := h', toks := tk })
    (hE : twoOf 2 what (.lost k) (.lost l) = none → ∀ e t h' G tk' vs, Fr h₀ L G m → RaisedS base G (envOf cn (SC nms more) L a ccd :: outer) e (.ref 67) t vs news h' → G.UpToSlots h' → E (.ref e) { s with heap := h', toks := tk' }) :
    wpAny (model PW w) (AT 540 gd (envOf cn (SC nms more) L a ccd) outer) (PySem.call (.ref 308) [.int wI t0, .ref x, .ref y]) Q E s := by
  obtain ⟨dx, nx, sx, hx, hdx⟩ := ux.data
  obtain ⟨dy, ny, sy, hy, hdy⟩ := uy.data
  have hwI : wI = (what : Int) := by omega
  have hlt : what < 6 := by omega
  clear hw
  refine wpAny_call ?_
  k_enter
  k_steps
  · obtain rfl : what = 0 := by omega
    first | ((rename RaisedS _ _ _ _ _ _ _ _ _ => hRR); exact hE rfl _ _ _ _ _ _ (by assumption) hRR (by assumption)) | exact hQ _ rfl _ _ _ (by assumption) (by assumption)
  · obtain rfl : what = 1 := by omega
    first | ((rename RaisedS _ _ _ _ _ _ _ _ _ => hRR); exact hE rfl _ _ _ _ _ _ (by assumption) hRR (by assumption)) | exact hQ _ rfl _ _ _ (by assumption) (by assumption)
  · obtain rfl : what = 2 := by omega
    first | ((rename RaisedS _ _ _ _ _ _ _ _ _ => hRR); exact hE rfl _ _ _ _ _ _ (by assumption) hRR (by assumption)) | exact hQ _ rfl _ _ _ (by assumption) (by assumption)
  · obtain rfl : what = 3 := by omega
    first | ((rename RaisedS _ _ _ _ _ _ _ _ _ => hRR); exact hE rfl _ _ _ _ _ _ (by assumption) hRR (by assumption)) | exact hQ _ rfl _ _ _ (by assumption) (by assumption)
  · obtain rfl : what = 4 := by omega
    first | ((rename RaisedS _ _ _ _ _ _ _ _ _ => hRR); exact hE rfl _ _ _ _ _ _ (by assumption) hRR (by assumption)) | exact hQ _ rfl _ _ _ (by assumption) (by assumption)
  · obtain rfl : what = 5 := by omega
    first | ((rename RaisedS _ _ _ _ _ _ _ _ _ => hRR); exact hE rfl _ _ _ _ _ _ (by assumption) hRR (by assumption)) | exact hQ _ rfl _ _ _ (by assumption) (by assumption)
set_option maxRecDepth 100000 in
set_option maxHeartbeats 4000000 in
theorem two_ui_2 (B : Below A₀ base outer h₀) (F : Fr h₀ L s.heap m) (X : (hd.heap_39 w.params).In h₀) (N : News h₀ L s.heap news) (T : Top hd.view_39 (looseW hd.view_39 LL) mean mg mb h₀) 
    (D : KtsDicts (outer.filterMap (·.frame)) h₀) {what : Nat} {wI : Int} {t0 : Tok} (hw : (what = 0 ∧ wI = 0) ∨ (what = 1 ∧ wI = 1) ∨ (what = 2 ∧ wI = 2) ∨ (what = 3 ∧ wI = 3) ∨ (what = 4 ∧ wI = 4) ∨ (what = 5 ∧ wI = 5)) {x k : Nat} (ux : ULed news 250 x k) {j : Int} {t2 : Tok}
    (hQ : ∀ r, twoOf 2 what (.lost k) (.num j) = some r → ∀ h' tk t, Fr h₀ L h' m → News h₀ L h' news → Q (.int r t) { s with heap := h', toks := tk })
    (hE : twoOf 2 what (.lost k) (.num j) = none → ∀ e t h' G tk' vs, Fr h₀ L G m → RaisedS base G (envOf cn (SC nms more) L a ccd :: outer) e (.ref 67) t vs news h' → G.UpToSlots h' → E (.ref e) { s with heap := h', toks := tk' }) :
    wpAny (model PW w) (AT 540 gd (envOf cn (SC nms more) L a ccd) outer) (PySem.call (.ref 308) [.int wI t0, .ref x, .int j t2]) Q E s := by
  obtain ⟨dx, nx, sx, hx, hdx⟩ := ux.data
  have hwI : wI = (what : Int) := by omega
  have hlt : what < 6 := by omega
  clear hw
  refine wpAny_call ?_
  k_enter
  k_steps
  · obtain rfl : what = 0 := by omega
    first | ((rename RaisedS _ _ _ _ _ _ _ _ _ => hRR); exact hE rfl _ _ _ _ _ _ (by assumption) hRR (by assumption)) | exact hQ _ rfl _ _ _ (by assumption) (by assumption)
  · obtain rfl : what = 1 := by omega
    first | ((rename RaisedS _ _ _ _ _ _ _ _ _ => hRR); exact hE rfl _ _ _ _ _ _ (by assumption) hRR (by assumption)) | exact hQ _ rfl _ _ _ (by assumption) (by assumption)
  · obtain rfl : what = 2 := by omega
    first | ((rename RaisedS _ _ _ _ _ _ _ _ _ => hRR); exact hE rfl _ _ _ _ _ _ (by assumption) hRR (by assumption)) | exact hQ _ rfl _ _ _ (by assumption) (by assumption)
  · obtain rfl : what = 3 := by omega
    first | ((rename RaisedS _ _ _ _ _ _ _ _ _ => hRR); exact hE rfl _ _ _ _ _ _ (by assumption) hRR (by assumption)) | exact hQ _ rfl _ _ _ (by assumption) (by assumption)
  · obtain rfl : what = 4 := by omega
    first | ((rename RaisedS _ _ _ _ _ _ _ _ _ => hRR); exact hE rfl _ _ _ _ _ _ (by assumption) hRR (by assumption)) | exact hQ _ rfl _ _ _ (by assumption) (by assumption)
  · obtain rfl : what = 5 := by omega
    first | ((rename RaisedS _ _ _ _ _ _ _ _ _ => hRR); exact hE rfl _ _ _ _ _ _ (by assumption) hRR (by assumption)) | exact hQ _ rfl _ _ _ (by assumption) (by assumption)
set_option maxRecDepth 100000 in
set_option maxHeartbeats 4000000 in
theorem two_iu_2 (B : Below A₀ base outer h₀) (F : Fr h₀ L s.heap m) (X : (hd.heap_39 w.params).In h₀) (N : News h₀ L s.heap news) (T : Top hd.view_39 (looseW hd.view_39 LL) mean mg mb h₀) 
    (D : KtsDicts (outer.filterMap (·.frame)) h₀) {what : Nat} {wI : Int} {t0 : Tok} (hw : (what = 0 ∧ wI = 0) ∨ (what = 1 ∧ wI = 1) ∨ (what = 2 ∧ wI = 2) ∨ (what = 3 ∧ wI = 3) ∨ (what = 4 ∧ wI = 4) ∨ (what = 5 ∧ wI = 5)) {i : Int} {t1 : Tok} {y l : Nat} (uy : ULed news 250 y l)
    (hQ : ∀ r, twoOf 2 what (.num i) (.lost l) = some r → ∀ h' tk t, Fr h₀ L h' m → News h₀ L h' news → Q (.int r t) { s with heap := h', toks := tk })
    (hE : twoOf 2 what (.num i) (.lost l) = none → ∀ e t h' G tk' vs, Fr h₀ L G m → RaisedS base G (envOf cn (SC nms more) L a ccd :: outer) e (.ref 67) t vs news h' → G.UpToSlots h' → E (.ref e) { s with heap := h', toks := tk' }) :
    wpAny (model PW w) (AT 540 gd (envOf cn (SC nms more) L a ccd) outer) (PySem.call (.ref 308) [.int wI t0, .int i t1, .ref y]) Q E s := by
  obtain ⟨dy, ny, sy, hy, hdy⟩ := uy.data
  have hwI : wI = (what : Int) := by omega
  have hlt : what < 6 := by omega
  clear hw
  refine wpAny_call ?_
  k_enter
  k_steps
  · obtain rfl : what = 0 := by omega
    first | ((rename RaisedS _ _ _ _ _ _ _ _ _ => hRR); exact hE rfl _ _ _ _ _ _ (by assumption) hRR (by assumption)) | exact hQ _ rfl _ _ _ (by assumption) (by assumption)
  · obtain rfl : what = 1 := by omega
    first | ((rename RaisedS _ _ _ _ _ _ _ _ _ => hRR); exact hE rfl _ _ _ _ _ _ (by assumption) hRR (by assumption)) | exact hQ _ rfl _ _ _ (by assumption) (by assumption)
  · obtain rfl : what = 2 := by omega
    first | ((rename RaisedS _ _ _ _ _ _ _ _ _ => hRR); exact hE rfl _ _ _ _ _ _ (by assumption) hRR (by assumption)) | exact hQ _ rfl _ _ _ (by assumption) (by assumption)
  · obtain rfl : what = 3 := by omega
    first | ((rename RaisedS _ _ _ _ _ _ _ _ _ => hRR); exact hE rfl _ _ _ _ _ _ (by assumption) hRR (by assumption)) | exact hQ _ rfl _ _ _ (by assumption) (by assumption)
  · obtain rfl : what = 4 := by omega
    first | ((rename RaisedS _ _ _ _ _ _ _ _ _ => hRR); exact hE rfl _ _ _ _ _ _ (by assumption) hRR (by assumption)) | exact hQ _ rfl _ _ _ (by assumption) (by assumption)
  · obtain rfl : what = 5 := by omega
    first | ((rename RaisedS _ _ _ _ _ _ _ _ _ => hRR); exact hE rfl _ _ _ _ _ _ (by assumption) hRR (by assumption)) | exact hQ _ rfl _ _ _ (by assumption) (by assumption)
set_option maxRecDepth 100000 in
set_option maxHeartbeats 4000000 in
theorem two_uu_3 (B : Below A₀ base outer h₀) (F : Fr h₀ L s.heap m) (X : (hd.heap_39 w.params).In h₀) (N : News h₀ L s.heap news) (T : Top hd.view_39 (looseW hd.view_39 LL) mean mg mb h₀) 
    (D : KtsDicts (outer.filterMap (·.frame)) h₀) {what : Nat} {wI : Int} {t0 : Tok} (hw : (what = 0 ∧ wI = 0) ∨ (what = 1 ∧ wI = 1) ∨ (what = 2 ∧ wI = 2) ∨ (what = 3 ∧ wI = 3) ∨ (what = 4 ∧ wI = 4) ∨ (what = 5 ∧ wI = 5)) {x k : Nat} (ux : ULed news 264 x k) {y l : Nat} (uy : ULed news 264 y l)
    (hQ : ∀ r, twoOf 3 what (.lost k) (.lost l) = some r → ∀ h' tk t, Fr h₀ L h' m → News h₀ L h' news → Q (.int r t) { s with heap := h', toks := tk })
    (hE : twoOf 3 what (.lost k) (.lost l) = none → ∀ e t h' G tk' vs, Fr h₀ L G m → RaisedS base G (envOf cn (SC nms more) L a ccd :: outer) e (.ref 67) t vs news h' → G.UpToSlots h' → E (.ref e) { s with heap := h', toks := tk' }) :
    wpAny (model PW w) (AT 540 gd (envOf cn (SC nms more) L a ccd) outer) (PySem.call (.ref 308) [.int wI t0, .ref x, .ref y]) Q E s := by
  obtain ⟨dx, nx, sx, hx, hdx⟩ := ux.data
  obtain ⟨dy, ny, sy, hy, hdy⟩ := uy.data
  have hwI : wI = (what : Int) := by omega
  have hlt : what < 6 := by omega
  clear hw
  refine wpAny_call ?_
  k_enter
  k_steps
  · obtain rfl : what = 0 := by omega
    first | ((rename RaisedS _ _ _ _ _ _ _ _ _ => hRR); exact hE rfl _ _ _ _ _ _ (by assumption) hRR (by assumption)) | exact hQ _ rfl _ _ _ (by assumption) (by assumption)
  · obtain rfl : what = 1 := by omega
    first | ((rename RaisedS _ _ _ _ _ _ _ _ _ => hRR); exact hE rfl _ _ _ _ _ _ (by assumption) hRR (by assumption)) | exact hQ _ rfl _ _ _ (by assumption) (by assumption)
  · obtain rfl : what = 2 := by omega
    first | ((rename RaisedS _ _ _ _ _ _ _ _ _ => hRR); exact hE rfl _ _ _ _ _ _ (by assumption) hRR (by assumption)) | exact hQ _ rfl _ _ _ (by assumption) (by assumption)
  · obtain rfl : what = 3 := by omega
    first | ((rename RaisedS _ _ _ _ _ _ _ _ _ => hRR); exact hE rfl _ _ _ _ _ _ (by assumption) hRR (by assumption)) | exact hQ _ rfl _ _ _ (by assumption) (by assumption)
  · obtain rfl : what = 4 := by omega
    first | ((rename RaisedS _ _ _ _ _ _ _ _ _ => hRR); exact hE rfl _ _ _ _ _ _ (by assumption) hRR (by assumption)) | exact hQ _ rfl _ _ _ (by assumption) (by assumption)
  · obtain rfl : what = 5 := by omega
    first | ((rename RaisedS _ _ _ _ _ _ _ _ _ => hRR); exact hE rfl _ _ _ _ _ _ (by assumption) hRR (by assumption)) | exact hQ _ rfl _ _ _ (by assumption) (by assumption)
set_option maxRecDepth 100000 in
set_option maxHeartbeats 4000000 in
theorem two_ui_3 (B : Below A₀ base outer h₀) (F : Fr h₀ L s.heap m) (X : (hd.heap_39 w.params).In h₀) (N : News h₀ L s.heap news) (T : Top hd.view_39 (looseW hd.view_39 LL) mean mg mb h₀) 
    (D : KtsDicts (outer.filterMap (·.frame)) h₀) {what : Nat} {wI : Int} {t0 : Tok} (hw : (what = 0 ∧ wI = 0) ∨ (what = 1 ∧ wI = 1) ∨ (what = 2 ∧ wI = 2) ∨ (what = 3 ∧ wI = 3) ∨ (what = 4 ∧ wI = 4) ∨ (what = 5 ∧ wI = 5)) {x k : Nat} (ux : ULed news 264 x k) {j : Int} {t2 : Tok}
    (hQ : ∀ r, twoOf 3 what (.lost k) (.num j) = some r → ∀ h' tk t, Fr h₀ L h' m → News h₀ L h' news → Q (.int r t) { s with heap := h', toks := tk })
    (hE : twoOf 3 what (.lost k) (.num j) = none → ∀ e t h' G tk' vs, Fr h₀ L G m → RaisedS base G (envOf cn (SC nms more) L a ccd :: outer) e (.ref 67) t vs news h' → G.UpToSlots h' → E (.ref e) { s with heap := h', toks := tk' }) :
    wpAny (model PW w) (AT 540 gd (envOf cn (SC nms more) L a ccd) outer) (PySem.call (.ref 308) [.int wI t0, .ref x, .int j t2]) Q E s := by
  obtain ⟨dx, nx, sx, hx, hdx⟩ := ux.data
  have hwI : wI = (what : Int) := by omega
  have hlt : what < 6 := by omega
  clear hw
  refine wpAny_call ?_
  k_enter
  k_steps
  · obtain rfl : what = 0 := by omega
    first | ((rename RaisedS _ _ _ _ _ _ _ _ _ => hRR); exact hE rfl _ _ _ _ _ _ (by assumption) hRR (by assumption)) | exact hQ _ rfl _ _ _ (by assumption) (by assumption)
  · obtain rfl : what = 1 := by omega
    first | ((rename RaisedS _ _ _ _ _ _ _ _ _ => hRR); exact hE rfl _ _ _ _ _ _ (by assumption) hRR (by assumption)) | exact hQ _ rfl _ _ _ (by assumption) (by assumption)
  · obtain rfl : what = 2 := by omega
    first | ((rename RaisedS _ _ _ _ _ _ _ _ _ => hRR); exact hE rfl _ _ _ _ _ _ (by assumption) hRR (by assumption)) | exact hQ _ rfl _ _ _ (by assumption) (by assumption)
  · obtain rfl : what = 3 := by omega
    first | ((rename RaisedS _ _ _ _ _ _ _ _ _ => hRR); exact hE rfl _ _ _ _ _ _ (by assumption) hRR (by assumption)) | exact hQ _ rfl _ _ _ (by assumption) (by assumption)
  · obtain rfl : what = 4 := by omega
    first | ((rename RaisedS _ _ _ _ _ _ _ _ _ => hRR); exact hE rfl _ _ _ _ _ _ (by assumption) hRR (by assumption)) | exact hQ _ rfl _ _ _ (by assumption) (by assumption)
  · obtain rfl : what = 5 := by omega
    first | ((rename RaisedS _ _ _ _ _ _ _ _ _ => hRR); exact hE rfl _ _ _ _ _ _ (by assumption) hRR (by assumption)) | exact hQ _ rfl _ _ _ (by assumption) (by assumption)
set_option maxRecDepth 100000 in
set_option maxHeartbeats 4000000 in
theorem two_iu_3 (B : Below A₀ base outer h₀) (F : Fr h₀ L s.heap m) (X : (hd.heap_39 w.params).In h₀) (N : News h₀ L s.heap news) (T : Top hd.view_39 (looseW hd.view_39 LL) mean mg mb h₀) 
    (D : KtsDicts (outer.filterMap (·.frame)) h₀) {what : Nat} {wI : Int} {t0 : Tok} (hw : (what = 0 ∧ wI = 0) ∨ (what = 1 ∧ wI = 1) ∨ (what = 2 ∧ wI = 2) ∨ (what = 3 ∧ wI = 3) ∨ (what = 4 ∧ wI = 4) ∨ (what = 5 ∧ wI = 5)) {i : Int} {t1 : Tok} {y l : Nat} (uy : ULed news 264 y l)
    (hQ : ∀ r, twoOf 3 what (.num i) (.lost l) = some r → ∀ h' tk t, Fr h₀ L h' m → News h₀ L h' news → Q (.int r t) { s with heap := h', toks := tk })
    (hE : twoOf 3 what (.num i) (.lost l) = none → ∀ e t h' G tk' vs, Fr h₀ L G m → RaisedS base G (envOf cn (SC nms more) L a ccd :: outer) e (.ref 67) t vs news h' → G.UpToSlots h' → E (.ref e) { s with heap := h', toks := tk' }) :
    wpAny (model PW w) (AT 540 gd (envOf cn (SC nms more) L a ccd) outer) (PySem.call (.ref 308) [.int wI t0, .int i t1, .ref y]) Q E s := by
  obtain ⟨dy, ny, sy, hy, hdy⟩ := uy.data
  have hwI : wI = (what : Int) := by omega
  have hlt : what < 6 := by omega
  clear hw
  refine wpAny_call ?_
  k_enter
  k_steps
  · obtain rfl : what = 0 := by omega
    first | ((rename RaisedS _ _ _ _ _ _ _ _ _ => hRR); exact hE rfl _ _ _ _ _ _ (by assumption) hRR (by assumption)) | exact hQ _ rfl _ _ _ (by assumption) (by assumption)
  · obtain rfl : what = 1 := by omega
    first | ((rename RaisedS _ _ _ _ _ _ _ _ _ => hRR); exact hE rfl _ _ _ _ _ _ (by assumption) hRR (by assumption)) | exact hQ _ rfl _ _ _ (by assumption) (by assumption)
  · obtain rfl : what = 2 := by omega
    first | ((rename RaisedS _ _ _ _ _ _ _ _ _ => hRR); exact hE rfl _ _ _ _ _ _ (by assumption) hRR (by assumption)) | exact hQ _ rfl _ _ _ (by assumption) (by assumption)
  · obtain rfl : what = 3 := by omega
    first | ((rename RaisedS _ _ _ _ _ _ _ _ _ => hRR); exact hE rfl _ _ _ _ _ _ (by assumption) hRR (by assumption)) | exact hQ _ rfl _ _ _ (by assumption) (by assumption)
  · obtain rfl : what = 4 := by omega
    first | ((rename RaisedS _ _ _ _ _ _ _ _ _ => hRR); exact hE rfl _ _ _ _ _ _ (by assumption) hRR (by assumption)) | exact hQ _ rfl _ _ _ (by assumption) (by assumption)
  · obtain rfl : what = 5 := by omega
    first | ((rename RaisedS _ _ _ _ _ _ _ _ _ => hRR); exact hE rfl _ _ _ _ _ _ (by assumption) hRR (by assumption)) | exact hQ _ rfl _ _ _ (by assumption) (by assumption)
end
end Mine
end
section
theorem Mine.quiet_M3 : True := by
  w_top off
  trivial
open PySem PySem.W PySem.W.X PyProof.Rows PySem.Calls PyProof.V PySem.Spec
namespace Mine
theorem apart2 {x d : Addr} {o : Obj} {news : List (Addr × Obj)} (l1 : ∀ p ∈ news, p.1 < d) (l2 : d < x) : ∀ p ∈ (d, o) :: news, p.1 ≠ x := by
  intro p hp
  rcases List.mem_cons.mp hp with rfl | hp
  · exact Nat.ne_of_lt l2
  · exact Nat.ne_of_lt (Nat.lt_trans (l1 p hp) l2)
theorem allLt_on {d : Nat} : ∀ {l : List (Addr × Obj)}, AllLt d l → ∀ p ∈ l, p.1 < d
  | [], _, p, hp => nomatch hp
  | q :: r, h, p, hp => by
    rcases List.mem_cons.mp hp with rfl | hp
    · exact h.1
    · exact allLt_on h.2 p hp
theorem apart3m {x d r : Addr} {o o' : Obj} {news : List (Addr × Obj)} (l1 : r < d ∧ AllLt d news) (l2 : d < x) : ∀ p ∈ (d, o) :: (r, o') :: news, p.1 ≠ x :=
  apart2 (fun p hp => by
    rcases List.mem_cons.mp hp with rfl | hp
    · exact l1.1
    · exact allLt_on l1.2 p hp) l2
theorem off2 {x d : Addr} {o o' : Obj} {news : List (Addr × Obj)} (l1 : ∀ p ∈ news, p.1 < d) (l2 : d < x) : ∀ p ∈ [(x, o), (d, o')], ∀ q ∈ news, q.1 ≠ p.1 := by
  intro p hp q hq
  have := l1 q hq
  rcases List.mem_cons.mp hp with rfl | hp
  · exact Nat.ne_of_lt (Nat.lt_trans this l2)
  · rcases List.mem_singleton.mp hp with rfl
    exact Nat.ne_of_lt this
theorem off3 {x d r : Addr} {o o' o'' : Obj} {news : List (Addr × Obj)} (l0 : ∀ p ∈ news, p.1 < r) (l1 : r < d ∧ AllLt d news) (l2 : d < x) : ∀ p ∈ [(x, o), (d, o'), (r, o'')], ∀ q ∈ news, q.1 ≠ p.1 := by
  intro p hp q hq
  have := allLt_on l1.2 q hq
  rcases List.mem_cons.mp hp with rfl | hp
  · exact Nat.ne_of_lt (Nat.lt_trans this l2)
  · rcases List.mem_cons.mp hp with rfl | hp
    · exact Nat.ne_of_lt this
    · rcases List.mem_singleton.mp hp with rfl
      exact Nat.ne_of_lt (l0 q hq)
theorem w1_of {prog : Program} {w : World} {es : List (Str × Value)} {news : List (Addr × Obj)} {C x d r n : Nat} {o : Obj} {tn : Tok} (a : (x, uObj C d .none (.str (Str.ofString "b") tn) (.ref r)) ∈ news) (b : (d, (dictOf [] n : Obj)) ∈ news) (c : (r, o) ∈ news) (h : Obj.IsDictOf (PySem.strKind prog w) o es) : ULed news C x 1 := by
  obtain ⟨cl, dd, dt, sl⟩ := o
  obtain ⟨_, _, hc, _⟩ := h
  have hc' : cl = .type "dict" := hc.1
  subst hc'
  exact .w1 a b c
section
variable {w : World} {mean : ExcName → Option Value} {mg mb : Str → Option Value} {gd : Option (List Code)} {cn : Str} {nms : List (Str × NameKind)} {more : List (Str × Const)} {a : Addr} {ccd : Value} {outer : List Env} {A₀ : Around} {base h₀ : Heap} {L : Addr} {m : Str → Option Value} {news : List (Addr × Obj)} {s : Shared} {Q E : Value → Shared → Prop}
local macro_rules | `(tactic| walk_at "setAttr ref") => `(tactic| (k_here; k_dflt ((refine' set_slot ?k1 ?k2 ?k3 ?k4 ?k5 ?k6 ?k7 ?k8 ?k9 ?k10 ?k11 ?k12 ?k13 ?_; (case k1 => k_asm); (case k2 => k_asm); (case k3 => k_asm); (case k4 => k_inst); (case k5 => k_is); (case k6 => k_is); (case k7 => k_is); (case k8 => k_is); (case k9 => k_is); (case k10 => decide); (case k11 => k_slotset); (case k12 => exact rfl); (case k13 => first | exact Upd.head (apart2 (by assumption) (by assumption)) | exact Upd.head (apart3m (by assumption) (by assumption))); k_whole; intro h' F' N'; (try k_sweep)))))
set_option maxRecDepth 100000 in
set_option maxHeartbeats 8000000 in
theorem made_all (B : Below A₀ base outer h₀) (F : Fr h₀ L s.heap m) (X : (hd.heap_39 w.params).In h₀) (N : News h₀ L s.heap news) (T : Top hd.view_39 (looseW hd.view_39 LL) mean mg mb h₀) {t0 t1 : Tok} {κ way : Nat} {kI wI : Int} (hκ : κ < 4) (hw : way < 3) (hk : kI = (κ : Int)) (hwI : wI = (way : Int))
    (hQ : ∀ h' tk x mn, Fr h₀ L h' m → News h₀ L h' (mn ++ news) → (∀ p ∈ mn, ∀ q ∈ news, q.1 ≠ p.1) → ULed mn (cOf κ) x way → Q (.ref x) { s with heap := h', toks := tk }) :
    wpAny (model PW w) (AT 540 gd (envOf cn (SC nms more) L a ccd) outer) (PySem.call (.ref 280) [.int kI t0, .int wI t1]) Q E s := by
  refine wpAny_call ?_
  k_enter
  k_steps
  · obtain rfl : κ = 0 := by omega
    obtain rfl : way = 0 := by omega
    exact hQ _ _ _ [_, _] (by assumption) (by assumption) (off2 (by assumption) (by assumption)) (.w0 (.head _) (.tail _ (.head _)))
  · obtain rfl : κ = 1 := by omega
    obtain rfl : way = 0 := by omega
    exact hQ _ _ _ [_, _] (by assumption) (by assumption) (off2 (by assumption) (by assumption)) (.w0 (.head _) (.tail _ (.head _)))
  · obtain rfl : κ = 2 := by omega
    obtain rfl : way = 0 := by omega
    exact hQ _ _ _ [_, _] (by assumption) (by assumption) (off2 (by assumption) (by assumption)) (.w0 (.head _) (.tail _ (.head _)))
  · obtain rfl : κ = 3 := by omega
    obtain rfl : way = 0 := by omega
    exact hQ _ _ _ [_, _] (by assumption) (by assumption) (off2 (by assumption) (by assumption)) (.w0 (.head _) (.tail _ (.head _)))
  · obtain rfl : κ = 0 := by omega
    obtain rfl : way = 1 := by omega
    exact hQ _ _ _ [_, _, _] (by assumption) (by assumption) (off3 (by assumption) (by assumption) (by assumption)) (w1_of (.head _) (.tail _ (.head _)) (.tail _ (.tail _ (.head _))) (by assumption))
  · obtain rfl : κ = 1 := by omega
    obtain rfl : way = 1 := by omega
    exact hQ _ _ _ [_, _, _] (by assumption) (by assumption) (off3 (by assumption) (by assumption) (by assumption)) (w1_of (.head _) (.tail _ (.head _)) (.tail _ (.tail _ (.head _))) (by assumption))
  · obtain rfl : κ = 2 := by omega
    obtain rfl : way = 1 := by omega
    exact hQ _ _ _ [_, _, _] (by assumption) (by assumption) (off3 (by assumption) (by assumption) (by assumption)) (w1_of (.head _) (.tail _ (.head _)) (.tail _ (.tail _ (.head _))) (by assumption))
  · obtain rfl : κ = 3 := by omega
    obtain rfl : way = 1 := by omega
    exact hQ _ _ _ [_, _, _] (by assumption) (by assumption) (off3 (by assumption) (by assumption) (by assumption)) (w1_of (.head _) (.tail _ (.head _)) (.tail _ (.tail _ (.head _))) (by assumption))
  · obtain rfl : κ = 0 := by omega
    obtain rfl : way = 2 := by omega
    exact hQ _ _ _ [_, _] (by assumption) (by assumption) (off2 (by assumption) (by assumption)) (.w2 (.head _) (.tail _ (.head _)))
  · obtain rfl : κ = 1 := by omega
    obtain rfl : way = 2 := by omega
    exact hQ _ _ _ [_, _] (by assumption) (by assumption) (off2 (by assumption) (by assumption)) (.w2 (.head _) (.tail _ (.head _)))
  · obtain rfl : κ = 2 := by omega
    obtain rfl : way = 2 := by omega
    exact hQ _ _ _ [_, _] (by assumption) (by assumption) (off2 (by assumption) (by assumption)) (.w2 (.head _) (.tail _ (.head _)))
  · obtain rfl : κ = 3 := by omega
    obtain rfl : way = 2 := by omega
    exact hQ _ _ _ [_, _] (by assumption) (by assumption) (off2 (by assumption) (by assumption)) (.w2 (.head _) (.tail _ (.head _)))
end
end Mine
end
section
theorem Mine.quiet_Q1 : True := by
  w_top off
  trivial
open PySem PySem.W PySem.W.X PyProof.Rows PySem.Calls PyProof.V PySem.Spec
namespace Mine
section
variable {w : World} {mean : ExcName → Option Value} {mg mb : Str → Option Value} {gd : Option (List Code)} {cn : Str} {nms : List (Str × NameKind)} {more : List (Str × Const)} {a : Addr} {ccd : Value} {outer : List Env} {A₀ : Around} {base h₀ : Heap} {L : Addr} {m : Str → Option Value} {news : List (Addr × Obj)} {s : Shared} {Q E : Value → Shared → Prop} {A : Around}
theorem made_at {κ way : Nat} {kI wI : Int} {t0 t1 : Tok} (hκ : κ < 4) (hw : way < 3) (hk : kI = (κ : Int)) (hwI : wI = (way : Int)) (hA : A.handled = none ∧ A.depth ≤ 540 ∧ A.frames = some (envOf cn (SC nms more) L a ccd :: outer) ∧ A.guards = gd ∧ A.units ≤ 1080)
    (B : Below A₀ base outer h₀) (F : Fr h₀ L s.heap m) (X : (hd.heap_39 w.params).In h₀) (N : News h₀ L s.heap news) (T : Top hd.view_39 (looseW hd.view_39 LL) mean mg mb h₀)
    (h : ∀ h' tk x mn, Fr h₀ L h' m → News h₀ L h' (mn ++ news) → (∀ p ∈ mn, ∀ q ∈ news, q.1 ≠ p.1) → ULed mn (cOf κ) x way → Q (.ref x) { s with heap := h', toks := tk }) : wpAny (model PW w) A (PySem.call (.ref 280) [.int kI t0, .int wI t1]) Q E s := by
  obtain ⟨c1, c2, c3, c4, c5⟩ := hA
  refine wpAny_le (A' := AT 540 gd (envOf cn (SC nms more) L a ccd) outer) ?_ c1 (show A.depth ≤ 540 by omega) c3 c4 (show A.units ≤ 2 * 540 by omega)
  exact made_all B F X N T hκ hw hk hwI h
end
end Mine
end
section
theorem Mine.quiet_Q2 : True := by
  w_top off
  trivial
open PySem PySem.W PySem.W.X PyProof.Rows PySem.Calls PyProof.V PySem.Spec
namespace Mine
/-- the numbers of the machine are small -/
def small : AV → Prop
  | .num i => -1000 < i ∧ i < 1000
  | .lost _ => True
section
variable {w : World} {mean : ExcName → Option Value} {mg mb : Str → Option Value} {gd : Option (List Code)} {cn : Str} {nms : List (Str × NameKind)} {more : List (Str × Const)} {a : Addr} {ccd : Value} {outer : List Env} {A₀ : Around} {base h₀ : Heap} {L : Addr} {m : Str → Option Value} {news : List (Addr × Obj)} {s : Shared} {Q E : Value → Shared → Prop}
theorem two_done {κ : Nat} (hκ : κ < 4) (B : Below A₀ base outer h₀) (F : Fr h₀ L s.heap m) (X : (hd.heap_39 w.params).In h₀) (N : News h₀ L s.heap news) (T : Top hd.view_39 (looseW hd.view_39 LL) mean mg mb h₀) 
    (D : KtsDicts (outer.filterMap (·.frame)) h₀) {what : Nat} {wI : Int} {t0 : Tok} (hlt : what < 6) (hwI : wI = (what : Int)) {v1 v2 : Value} {a1 a2 : AV} (r1 : VRel news (cOf κ) v1 a1) (r2 : VRel news (cOf κ) v2 a2) (b1 : small a1) (b2 : small a2)
    (hQ : ∀ r, twoOf κ what a1 a2 = some r → ∀ h' tk t, Fr h₀ L h' m → News h₀ L h' news → Q (.int r t) { s with heap := h', toks := tk })
    (hE : twoOf κ what a1 a2 = none → ∀ e t h' G tk' vs, Fr h₀ L G m → RaisedS base G (envOf cn (SC nms more) L a ccd :: outer) e (.ref 67) t vs news h' → G.UpToSlots h' → E (.ref e) { s with heap := h', toks := tk' }) :
    wpAny (model PW w) (AT 540 gd (envOf cn (SC nms more) L a ccd) outer) (PySem.call (.ref 308) [.int wI t0, v1, v2]) Q E s := by
  have hw : (what = 0 ∧ wI = 0) ∨ (what = 1 ∧ wI = 1) ∨ (what = 2 ∧ wI = 2) ∨ (what = 3 ∧ wI = 3) ∨ (what = 4 ∧ wI = 4) ∨ (what = 5 ∧ wI = 5) := by omega
  cases r1 with
  | num => cases r2 with
    | num => exact two_ii_done B F X N T D hw b1 b2 hQ
    | lost u2 => 
      rcases (by omega : κ = 0 ∨ κ = 1 ∨ κ = 2 ∨ κ = 3) with rfl | rfl | rfl | rfl
      · exact two_iu_0 B F X N T D hw u2 hQ hE
      · exact two_iu_1 B F X N T D hw u2 hQ hE
      · exact two_iu_2 B F X N T D hw u2 hQ hE
      · exact two_iu_3 B F X N T D hw u2 hQ hE
  | lost u1 => cases r2 with
    | num => 
      rcases (by omega : κ = 0 ∨ κ = 1 ∨ κ = 2 ∨ κ = 3) with rfl | rfl | rfl | rfl
      · exact two_ui_0 B F X N T D hw u1 hQ hE
      · exact two_ui_1 B F X N T D hw u1 hQ hE
      · exact two_ui_2 B F X N T D hw u1 hQ hE
      · exact two_ui_3 B F X N T D hw u1 hQ hE
    | lost u2 => 
      rcases (by omega : κ = 0 ∨ κ = 1 ∨ κ = 2 ∨ κ = 3) with rfl | rfl | rfl | rfl
      · exact two_uu_0 B F X N T D hw u1 u2 hQ hE
      · exact two_uu_1 B F X N T D hw u1 u2 hQ hE
      · exact two_uu_2 B F X N T D hw u1 u2 hQ hE
      · exact two_uu_3 B F X N T D hw u1 u2 hQ hE
theorem one_done {κ : Nat} (hκ : κ < 4) (B : Below A₀ base outer h₀) (F : Fr h₀ L s.heap m) (X : (hd.heap_39 w.params).In h₀) (N : News h₀ L s.heap news) (T : Top hd.view_39 (looseW hd.view_39 LL) mean mg mb h₀) 
    (D : KtsDicts (outer.filterMap (·.frame)) h₀) (XB : (hd.heap_39 w.params).In base) {what : Nat} {wI : Int} {t0 : Tok} (hlt : what < 8) (hwI : wI = (what : Int)) {v1 : Value} {a1 : AV} {led : List (Addr × Obj)} (hled : ∀ p ∈ led, p ∈ news) (r1 : VRel led (cOf κ) v1 a1) (b1 : small a1)
    (hQ : ∀ r, oneOf κ what a1 = some r → ∀ v h' tk, VRel led (cOf κ) v r → Fr h₀ L h' m → News h₀ L h' news → Q v { s with heap := h', toks := tk })
    (hE : oneOf κ what a1 = none → ∀ e t h' G tk' vs, Fr h₀ L G m → RaisedS base G (envOf cn (SC nms more) L a ccd :: outer) e (.ref 67) t vs news h' → G.UpToSlots h' → E (.ref e) { s with heap := h', toks := tk' }) :
    wpAny (model PW w) (AT 540 gd (envOf cn (SC nms more) L a ccd) outer) (PySem.call (.ref 315) [.int wI t0, v1]) Q E s := by
  have hw : (what = 0 ∧ wI = 0) ∨ (what = 1 ∧ wI = 1) ∨ (what = 2 ∧ wI = 2) ∨ (what = 3 ∧ wI = 3) ∨ (what = 4 ∧ wI = 4) ∨ (what = 5 ∧ wI = 5) ∨ (what = 6 ∧ wI = 6) ∨ (what = 7 ∧ wI = 7) := by omega
  cases r1 with
  | num => exact one_i B F X N T D hw b1 hQ
  | lost u1 => 
    rcases (by omega : κ = 0 ∨ κ = 1 ∨ κ = 2 ∨ κ = 3) with rfl | rfl | rfl | rfl
    · exact one_u_0 B F X N T D XB hw hled u1 hQ hE
    · exact one_u_1 B F X N T D XB hw hled u1 hQ hE
    · exact one_u_2 B F X N T D XB hw hled u1 hQ hE
    · exact one_u_3 B F X N T D XB hw hled u1 hQ hE
theorem two_done_at {κ : Nat} {A : Around} (hA : A.handled = none ∧ A.depth ≤ 540 ∧ A.frames = some (envOf cn (SC nms more) L a ccd :: outer) ∧ A.guards = gd ∧ A.units ≤ 1080) (hκ : κ < 4) (B : Below A₀ base outer h₀) (F : Fr h₀ L s.heap m) (X : (hd.heap_39 w.params).In h₀) (N : News h₀ L s.heap news) (T : Top hd.view_39 (looseW hd.view_39 LL) mean mg mb h₀) 
    (D : KtsDicts (outer.filterMap (·.frame)) h₀) {what : Nat} {wI : Int} {t0 : Tok} (hlt : what < 6) (hwI : wI = (what : Int)) {v1 v2 : Value} {a1 a2 : AV} (r1 : VRel news (cOf κ) v1 a1) (r2 : VRel news (cOf κ) v2 a2) (b1 : small a1) (b2 : small a2)
    (hQ : ∀ r, twoOf κ what a1 a2 = some r → ∀ h' tk t, Fr h₀ L h' m → News h₀ L h' news → Q (.int r t) { s with heap := h', toks := tk })
    (hE : twoOf κ what a1 a2 = none → ∀ e t h' G tk' vs, Fr h₀ L G m → RaisedS base G (envOf cn (SC nms more) L a ccd :: outer) e (.ref 67) t vs news h' → G.UpToSlots h' → E (.ref e) { s with heap := h', toks := tk' }) :
    wpAny (model PW w) A (PySem.call (.ref 308) [.int wI t0, v1, v2]) Q E s := by
  obtain ⟨c1, c2, c3, c4, c5⟩ := hA
  exact wpAny_le (two_done hκ B F X N T D hlt hwI r1 r2 b1 b2 hQ hE) c1 (by show A.depth ≤ 540; omega) c3 c4 (by show A.units ≤ 2 * 540; omega)
theorem one_done_at {κ : Nat} {A : Around} (hA : A.handled = none ∧ A.depth ≤ 540 ∧ A.frames = some (envOf cn (SC nms more) L a ccd :: outer) ∧ A.guards = gd ∧ A.units ≤ 1080) (hκ : κ < 4) (B : Below A₀ base outer h₀) (F : Fr h₀ L s.heap m) (X : (hd.heap_39 w.params).In h₀) (N : News h₀ L s.heap news) (T : Top hd.view_39 (looseW hd.view_39 LL) mean mg mb h₀) 
    (D : KtsDicts (outer.filterMap (·.frame)) h₀) (XB : (hd.heap_39 w.params).In base) {what : Nat} {wI : Int} {t0 : Tok} (hlt : what < 8) (hwI : wI = (what : Int)) {v1 : Value} {a1 : AV} {led : List (Addr × Obj)} (hled : ∀ p ∈ led, p ∈ news) (r1 : VRel led (cOf κ) v1 a1) (b1 : small a1)
    (hQ : ∀ r, oneOf κ what a1 = some r → ∀ v h' tk, VRel led (cOf κ) v r → Fr h₀ L h' m → News h₀ L h' news → Q v { s with heap := h', toks := tk })
    (hE : oneOf κ what a1 = none → ∀ e t h' G tk' vs, Fr h₀ L G m → RaisedS base G (envOf cn (SC nms more) L a ccd :: outer) e (.ref 67) t vs news h' → G.UpToSlots h' → E (.ref e) { s with heap := h', toks := tk' }) :
    wpAny (model PW w) A (PySem.call (.ref 315) [.int wI t0, v1]) Q E s := by
  obtain ⟨c1, c2, c3, c4, c5⟩ := hA
  exact wpAny_le (one_done hκ B F X N T D XB hlt hwI hled r1 b1 hQ hE) c1 (by show A.depth ≤ 540; omega) c3 c4 (by show A.units ≤ 2 * 540; omega)
end
end Mine
end
section
theorem Mine.quiet_R1 : True := by
  w_top off
  trivial
open PySem PySem.W PySem.W.X PyProof.Rows PySem.Calls PyProof.V PySem.Spec
namespace Mine
abbrev tup2 (a b : Value) : Obj := { cls := .type "tuple", data := .seq #[a, b] }
/-- the refs ts stand for the pairs, laid in the ledger -/
inductive Tups (led : List (Addr × Obj)) : List Value → List (Nat × Nat) → Prop
  | nil : Tups led [] []
  | snoc {ts : List Value} {st : List (Nat × Nat)} {t c x : Nat} {k1 k2 : Tok} : Tups led ts st → (t, tup2 (.int (c : Int) k1) (.int (x : Int) k2)) ∈ led → Tups led (ts ++ [.ref t]) (st ++ [(c, x)])
theorem Tups.mono {led led' : List (Addr × Obj)} {ts : List Value} {st : List (Nat × Nat)} (h : Tups led ts st) (hs : ∀ p ∈ led, p ∈ led') : Tups led' ts st := by
  induction h with
  | nil => exact .nil
  | snoc _ b ih => exact .snoc ih (hs _ b)
theorem Tups.length {led : List (Addr × Obj)} {ts : List Value} {st : List (Nat × Nat)} (h : Tups led ts st) : ts.length = st.length := by
  induction h with
  | nil => rfl
  | snoc _ _ ih => simp [ih]
theorem Tups.get {led : List (Addr × Obj)} {ts : List Value} {st : List (Nat × Nat)} (h : Tups led ts st) : ∀ i (hi : i < st.length), ∃ t k1 k2, ts[i]? = some (.ref t) ∧ (t, tup2 (.int ((st[i]).1 : Int) k1) (.int ((st[i]).2 : Int) k2)) ∈ led := by
  induction h with
  | nil => intro i hi; cases hi
  | @snoc ts st t c x k1 k2 a b ih =>
    intro i hi
    have e := a.length
    by_cases q : i < st.length
    · obtain ⟨t', a1, a2, b1, b2⟩ := ih i q
      refine ⟨t', a1, a2, ?_, ?_⟩
      · rw [List.getElem?_append_left (by omega)]; exact b1
      · rw [List.getElem_append_left q]; exact b2
    · have hi' : i = st.length := by simp at hi; omega
      subst hi'
      refine ⟨t, k1, k2, ?_, ?_⟩
      · rw [List.getElem?_append_right (by omega)]; simp [e]
      · simpa using b
/-- one step of a plan: the height of the stack -/
def hstep (h : Nat) (cw : Nat × Nat) : Option Nat := match cw.1 with
  | 0 => if cw.2 < 10 then some (h + 1) else none
  | 1 => if cw.2 < 8 ∧ 1 ≤ h then some h else none
  | 2 => if cw.2 < 6 ∧ 2 ≤ h then some (h - 1) else none
  | 3 => if 3 ≤ h then some (h - 2) else none
  | _ => none
def hrun : List (Nat × Nat) → Nat → Option Nat
  | [], h => some h
  | x :: r, h => (hstep h x).bind (hrun r)
theorem hrun_snoc : ∀ (l : List (Nat × Nat)) (x : Nat × Nat) (h : Nat), hrun (l ++ [x]) h = (hrun l h).bind (hstep · x)
  | [], x, h => by simp [hrun]
  | y :: r, x, h => by
    show (hstep h y).bind (hrun (r ++ [x])) = ((hstep h y).bind (hrun r)).bind _
    cases hstep h y with
    | none => rfl
    | some k => exact hrun_snoc r x k
def JP (c st : Addr) (r0 : List (Addr × Obj)) (i : Nat) (m : Str → Option Value) (nx : List (Addr × Obj)) : Prop :=
  ∃ ts n r steps h, m (Str.ofString "steps") = some (.ref st) ∧ (∃ t, m (Str.ofString "height") = some (.int ((h : Nat) : Int) t)) ∧ m (Str.ofString "cells") = some (.ref c) ∧ nx = (st, (listOf (List.toArray ts) n : Obj)) :: (r ++ r0) ∧ (∀ p ∈ r ++ r0, p.1 ≠ st) ∧ Tups r ts steps ∧ hrun steps 0 = some h ∧ h ≤ i ∧ (1 ≤ i → 1 ≤ h) ∧ steps.length ≤ i
theorem news_rot {h₀ h : Heap} {L : Addr} {a b c : Addr × Obj} {r : List (Addr × Obj)} (N : News h₀ L h (a :: b :: c :: r)) : News h₀ L h (c :: a :: b :: r) := by
  intro p hp
  refine N p ?_
  rcases List.mem_cons.mp hp with rfl | hp
  · exact .tail _ (.tail _ (.head _))
  · rcases List.mem_cons.mp hp with rfl | hp
    · exact .head _
    · rcases List.mem_cons.mp hp with rfl | hp
      · exact .tail _ (.head _)
      · exact .tail _ (.tail _ (.tail _ hp))
theorem apart3 {st D0 D1 : Addr} {o0 o1 : Obj} {news : List (Addr × Obj)} (q1 : D0 < D1 ∧ st < D1 ∧ AllLt D1 news) (q2 : st < D0 ∧ AllLt D0 news) (q3 : ∀ p ∈ news, p.1 < st) : ∀ p ∈ (D1, o1) :: (D0, o0) :: news, p.1 ≠ st := by
  intro p hp
  rcases List.mem_cons.mp hp with rfl | hp
  · exact Nat.ne_of_gt q1.2.1
  · rcases List.mem_cons.mp hp with rfl | hp
    · exact Nat.ne_of_gt q2.1
    · exact Nat.ne_of_lt (q3 p hp)
theorem plan_start {h₀ h : Heap} {L st D0 D1 : Addr} {o o0 o1 : Obj} {news : List (Addr × Obj)} (N : News h₀ L h ((D1, o1) :: (D0, o0) :: (st, o) :: news)) (q1 : D0 < D1 ∧ st < D1 ∧ AllLt D1 news) (q2 : st < D0 ∧ AllLt D0 news) (q3 : ∀ p ∈ news, p.1 < st) :
    News h₀ L h ((st, o) :: ((D1, o1) :: (D0, o0) :: news)) ∧ (∀ p ∈ (D1, o1) :: (D0, o0) :: news, p.1 ≠ st) ∧ ∀ p ∈ news, p ∈ (D1, o1) :: (D0, o0) :: news := ⟨news_rot N, apart3 q1 q2 q3, fun p hp => .tail _ (.tail _ hp)⟩
theorem pick_mem {l : List Value} {lo hi : Option Int} {i : Nat} {v : Value} (h : (kms_pick l lo hi)[i]? = some v) : v ∈ l := List.mem_of_mem_drop (List.mem_of_mem_take (List.mem_of_getElem? h))
theorem led_on {h₀ h : Heap} {L st : Addr} {o : Obj} {r own : List (Addr × Obj)} (N : News h₀ L h (((st, o) :: r) ++ own)) (hap : ∀ p ∈ r, p.1 ≠ st) (hoff : OwnOff own (((st, o) :: r).map (·.1))) : News h₀ L h ((st, o) :: (r ++ own)) ∧ ∀ p ∈ r ++ own, p.1 ≠ st := by
  refine ⟨N, fun p hp => ?_⟩
  rcases List.mem_append.mp hp with hp | hp
  · exact hap p hp
  · exact fun e => hoff p hp st (List.Mem.head _) e
theorem allLt_to {d : Nat} : ∀ {l : List (Addr × Obj)}, AllLt d l → ∀ p ∈ l, p.1 < d
  | [], _, p, hp => nomatch hp
  | q :: r, h, p, hp => by
    rcases List.mem_cons.mp hp with rfl | hp
    · exact h.1
    · exact allLt_to h.2 p hp
theorem fm {a b : Int} (h : 0 < b) : 0 ≤ a.fmod b ∧ a.fmod b < b := ⟨Int.fmod_nonneg_of_pos a h, Int.fmod_lt_of_pos a h⟩
theorem plan_end {g h' : Heap} {L c st t D : Addr} {oD : Obj} {r r0 own : List (Addr × Obj)} {i k ht htN cN : Nat} {ts : List Value} {steps : List (Nat × Nat)} {m'' : Str → Option Value} {cI wI hI : Int} {k1 k2 t2 : Tok} {x : Addr × Obj} {s₁ : Shared} {tk : Nat}
    (F9 : Fr g L h' m'') (N9 : News g L h' ((t, tup2 (.int cI k1) (.int wI k2)) :: (D, oD) :: (st, listOf (ts.toArray.push (.ref t)) (k + 1)) :: (r ++ r0 ++ own)))
    (q : D < t ∧ st < t ∧ AllLt t (r ++ r0 ++ own)) (hap : ∀ p ∈ r ++ r0, p.1 ≠ st) (hoff : OwnOff own (((st, (listOf ts.toArray k : Obj)) :: (r ++ r0)).map (·.1))) (hx : x ∈ r0)
    (e1 : m'' (Str.ofString "steps") = some (.ref st)) (e2 : m'' (Str.ofString "height") = some (.int hI t2)) (e3 : m'' (Str.ofString "cells") = some (.ref c))
    (hts : Tups r ts steps) (hr : hrun steps 0 = some ht) (ec : cI = (cN : Int)) (ew : 0 ≤ wI) (hs : hstep ht (cN, wI.toNat) = some htN) (eh : hI = (htN : Int)) (b1 : htN ≤ i + 1) (b2 : 1 ≤ htN) (hlen : steps.length ≤ i) :
    InvEndG g L (fun m' nx => x ∈ nx ∧ JP c st r0 (i + 1) m' nx) own s₁ { s₁ with heap := h', toks := tk } := by
  have hlt := allLt_to q.2.2
  refine InvEndG.intro (nx := (st, (listOf (List.toArray (ts ++ [.ref t])) (k + 1) : Obj)) :: (((t, tup2 (.int cI k1) (.int wI k2)) :: r) ++ r0)) F9 N9 ⟨?_, ts ++ [.ref t], k + 1, (t, tup2 (.int cI k1) (.int wI k2)) :: r, steps ++ [(cN, wI.toNat)], htN, e1, ⟨t2, by rw [e2, eh]⟩, e3, rfl, ?_, ?_, ?_, b1, fun _ => b2, ?_⟩ ?_ ?_ ?_
  · exact .tail _ (List.mem_append_right _ hx)
  · intro p hp
    rcases List.mem_cons.mp hp with rfl | hp
    · exact Nat.ne_of_gt q.2.1
    · exact hap p hp
  · refine .snoc (k1 := k1) (k2 := k2) (hts.mono fun p hp => .tail _ hp) ?_
    rw [Int.toNat_of_nonneg ew, ← ec]
    exact .head _
  · rw [hrun_snoc, hr]
    exact hs
  · simp only [List.length_append, List.length_cons, List.length_nil]
    omega
  · intro p hp b hb e
    obtain ⟨z, hz, rfl⟩ := List.mem_map.mp hb
    have w1 := hlt p (List.mem_append_right _ hp)
    rcases List.mem_cons.mp hz with rfl | hz
    · exact hoff p hp _ (List.mem_map.mpr ⟨_, .head _, rfl⟩) e
    · rcases List.mem_cons.mp hz with rfl | hz
      · exact absurd w1 (by rw [e]; exact Nat.lt_irrefl _)
      · exact hoff p hp _ (List.mem_map.mpr ⟨_, .tail _ hz, rfl⟩) e
  · intro p hp
    rcases List.mem_cons.mp hp with rfl | hp
    · rw [← List.push_toArray]
      exact .tail _ (.tail _ (.head _))
    · rcases List.mem_cons.mp hp with rfl | hp
      · exact .head _
      · exact .tail _ (.tail _ (.tail _ (List.mem_append_left _ hp)))
  · intro p hp
    exact .tail _ (.tail _ (.tail _ (List.mem_append_right _ hp)))
theorem plan_end2 {g h' : Heap} {L c st t D : Addr} {oD : Obj} {r r0 own : List (Addr × Obj)} {i k ht : Nat} {ts : List Value} {steps : List (Nat × Nat)} {m'' : Str → Option Value} {cI wI hI : Int} {k1 k2 t2 : Tok} {x : Addr × Obj} {s₁ : Shared} {tk : Nat}
    (hle : ht ≤ i) (hlen : steps.length ≤ i) (hts : Tups r ts steps) (hr : hrun steps 0 = some ht) (hap : ∀ p ∈ r ++ r0, p.1 ≠ st) (hoff : OwnOff own (((st, (listOf ts.toArray k : Obj)) :: (r ++ r0)).map (·.1))) (hx : x ∈ r0)
    (F9 : Fr g L h' m'') (N9 : News g L h' ((t, tup2 (.int cI k1) (.int wI k2)) :: (D, oD) :: (st, listOf (ts.toArray.push (.ref t)) (k + 1)) :: (r ++ r0 ++ own)))
    (q : D < t ∧ st < t ∧ AllLt t (r ++ r0 ++ own)) 
    (e1 : m'' (Str.ofString "steps") = some (.ref st)) (e2 : m'' (Str.ofString "height") = some (.int hI t2)) (e3 : m'' (Str.ofString "cells") = some (.ref c))
    (hc : (cI = 2 ∧ 0 ≤ wI ∧ wI < 6 ∧ 2 ≤ ht ∧ hI = (ht : Int) - 1) ∨ (cI = 3 ∧ wI = 0 ∧ 3 ≤ ht ∧ hI = (ht : Int) - 2) ∨ (cI = 1 ∧ 0 ≤ wI ∧ wI < 8 ∧ 1 ≤ ht ∧ hI = (ht : Int)) ∨ (cI = 0 ∧ 0 ≤ wI ∧ wI < 10 ∧ hI = (ht : Int) + 1)) :
    InvEndG g L (fun m' nx => x ∈ nx ∧ JP c st r0 (i + 1) m' nx) own s₁ { s₁ with heap := h', toks := tk } := by
  rcases hc with ⟨rfl, a1, a2, a3, rfl⟩ | ⟨rfl, rfl, a3, rfl⟩ | ⟨rfl, a1, a2, a3, rfl⟩ | ⟨rfl, a1, a2, rfl⟩
  · exact plan_end (cN := 2) (htN := ht - 1) F9 N9 q hap hoff hx e1 e2 e3 hts hr rfl a1 (if_pos ⟨by dsimp only; omega, a3⟩) (by omega) (by omega) (by omega) hlen
  · exact plan_end (cN := 3) (htN := ht - 2) F9 N9 q hap hoff hx e1 e2 e3 hts hr rfl (Int.le_refl 0) (if_pos a3) (by omega) (by omega) (by omega) hlen
  · exact plan_end (cN := 1) (htN := ht) F9 N9 q hap hoff hx e1 e2 e3 hts hr rfl a1 (if_pos ⟨by dsimp only; omega, a3⟩) (by omega) (by omega) (by omega) hlen
  · exact plan_end (cN := 0) (htN := ht + 1) F9 N9 q hap hoff hx e1 e2 e3 hts hr rfl a1 (if_pos (by dsimp only; omega)) (by omega) (by omega) (by omega) hlen
theorem plan_room {vs ts : List Value} {lo hi : Option Int} {i : Nat} {v : Value} {r : List (Addr × Obj)} {steps : List (Nat × Nat)} (h : (kms_pick vs.toArray.toList lo hi)[i]? = some v) (hl : steps.length ≤ i) (hts : Tups r ts steps) (h19 : vs.length ≤ 19) : ts.toArray.size ≤ sizeLine := by
  have h1 := (List.getElem?_eq_some_iff.mp h).1
  have h2 := hts.length
  unfold kms_pick at h1
  simp only [List.length_take, List.length_drop, List.toList_toArray] at h1
  rw [List.size_toArray, sizeLine_eq]
  omega
theorem of_stop {p : Prop} (h : Stop p) : p := h.out
/-- the second loop of the plan: the height is what it counts down -/
def JW (c st : Addr) (r0 : List (Addr × Obj)) (h : Nat) (m : Str → Option Value) (nx : List (Addr × Obj)) : Prop :=
  ∃ ts n r steps, m (Str.ofString "steps") = some (.ref st) ∧ (∃ t, m (Str.ofString "height") = some (.int ((h : Nat) : Int) t)) ∧ m (Str.ofString "cells") = some (.ref c) ∧ nx = (st, (listOf (List.toArray ts) n : Obj)) :: (r ++ r0) ∧ (∀ p ∈ r ++ r0, p.1 ≠ st) ∧ Tups r ts steps ∧ hrun steps 0 = some h ∧ 1 ≤ h ∧ steps.length + h ≤ 40
theorem plan_len0 {l : List Value} {lo hi : Option Int} (h19 : l.length ≤ 19) : (kms_pick l.toArray.toList lo hi).length ≤ 19 := by
  unfold kms_pick
  simp only [List.length_take, List.length_drop, List.toList_toArray]
  omega
theorem plan_len {l : List Value} {lo hi : Option Int} {ht : Nat} {steps : List (Nat × Nat)} (h : steps.length ≤ (kms_pick l.toArray.toList lo hi).length) (h' : ht ≤ (kms_pick l.toArray.toList lo hi).length) (h19 : l.length ≤ 19) : steps.length + ht ≤ 40 := by
  have := plan_len0 (lo := lo) (hi := hi) h19
  omega
theorem plan_pos {l : List Value} {ht : Nat} (h : 1 ≤ (kms_pick l.toArray.toList (some 1) (some 19)).length → 1 ≤ ht) (h3 : 3 ≤ l.length) : 1 ≤ ht := by
  refine h ?_
  unfold kms_pick kms_lo kms_hi
  simp only [List.length_take, List.length_drop, List.toList_toArray]
  simp
  omega
theorem plan_room2 {h : Nat} {ts : List Value} {r : List (Addr × Obj)} {steps : List (Nat × Nat)} (hl : steps.length + h ≤ 40) (hts : Tups r ts steps) : ts.toArray.size ≤ sizeLine := by
  have h2 := hts.length
  rw [List.size_toArray, sizeLine_eq]
  omega
theorem plan_first {vs : List Value} (hv : ∀ v ∈ vs, ∃ j t, v = .int j t ∧ 0 ≤ j ∧ j < 10000) (h3 : 3 ≤ vs.length) : ∃ j t, vs[(0 : Int).toNat]? = some (.int j t) := by
  cases vs with
  | nil => cases h3
  | cons a r =>
    obtain ⟨j, t, rfl, _⟩ := hv a (.head _)
    exact ⟨j, t, rfl⟩
theorem plan_wend {g h' : Heap} {L c st t : Addr} {r r0 : List (Addr × Obj)} {k ht : Nat} {ts : List Value} {steps : List (Nat × Nat)} {m'' : Str → Option Value} {cI wI hI : Int} {k1 k2 t2 : Tok} {s₁ : Shared} {tk : Nat}
    (hlen : steps.length + ht ≤ 40) (hts : Tups r ts steps) (hr : hrun steps 0 = some ht) (hap : ∀ p ∈ r ++ r0, p.1 ≠ st)
    (F9 : Fr g L h' m'') (N9 : News g L h' ((t, tup2 (.int cI k1) (.int wI k2)) :: (st, listOf (ts.toArray.push (.ref t)) (k + 1)) :: (r ++ r0)))
    (q : st < t ∧ AllLt t (r ++ r0)) 
    (e1 : m'' (Str.ofString "steps") = some (.ref st)) (e2 : m'' (Str.ofString "height") = some (.int hI t2)) (e3 : m'' (Str.ofString "cells") = some (.ref c))
    (hc : cI = 2 ∧ 0 ≤ wI ∧ wI < 6 ∧ 2 ≤ ht ∧ hI = (ht : Int) - 1) :
    WhileStep g L s₁ (fun n m' nx => JW c st r0 n m' nx) ht .next { s₁ with heap := h', toks := tk } := by
  obtain ⟨rfl, a1, a2, a3, rfl⟩ := hc
  refine WhileStep.intro (n' := ht - 1) (news₂ := (st, (listOf (List.toArray (ts ++ [.ref t])) (k + 1) : Obj)) :: (((t, tup2 (.int 2 k1) (.int wI k2)) :: r) ++ r0)) F9 ?_ (by omega) ⟨ts ++ [.ref t], k + 1, (t, tup2 (.int 2 k1) (.int wI k2)) :: r, steps ++ [(2, wI.toNat)], e1, ⟨t2, ?_⟩, e3, rfl, ?_, ?_, ?_, by omega, ?_⟩
  · intro p hp
    refine N9 p ?_
    rcases List.mem_cons.mp hp with rfl | hp
    · rw [← List.push_toArray]
      exact .tail _ (.head _)
    · rcases List.mem_cons.mp hp with rfl | hp
      · exact .head _
      · exact .tail _ (.tail _ hp)
  · rw [e2]
    congr 2
    omega
  · intro p hp
    rcases List.mem_cons.mp hp with rfl | hp
    · exact Nat.ne_of_gt q.1
    · exact hap p hp
  · refine .snoc (k1 := k1) (k2 := k2) (hts.mono fun p hp => .tail _ hp) ?_
    rw [Int.toNat_of_nonneg a1]
    exact .head _
  · rw [hrun_snoc, hr]
    exact if_pos ⟨by dsimp only; omega, a3⟩
  · simp only [List.length_append, List.length_cons, List.length_nil]
    omega
section
variable {w : World} {mean : ExcName → Option Value} {mg mb : Str → Option Value} {gd : Option (List Code)} {cn : Str} {nms : List (Str × NameKind)} {more : List (Str × Const)} {a : Addr} {ccd : Value} {outer : List Env} {A₀ : Around} {base h₀ : Heap} {L : Addr} {m : Str → Option Value} {news : List (Addr × Obj)} {s : Shared} {Q E : Value → Shared → Prop}
local macro_rules | `(tactic| walk_at "callWith") => `(tactic| ((with_reducible show wpAny _ _ (callWith _ (Value.builtin "list.append") [_] _ _) _ _ _); refine callWith_method1 ?_))
local macro_rules | `(tactic| walk_at "call builtin:list.append") => `(tactic| (k_here; (with_reducible show wpAny _ _ (call (Value.builtin _) [Value.ref _, _]) _ _ _); k_dflt (refine' append_K ?zF ?zN ?zU ?_ ?zz; (case zF => k_asm); (case zN => k_asm); (case zU => k_upd); (case zz => assumption)); intro h' F' N'; (try k_sweep)))
local macro_rules | `(tactic| k_upd) => `(tactic| exact Upd.head (by assumption))
local macro_rules | `(tactic| walk_at "exec While Compare") => `(tactic| ((with_reducible show wpAny _ _ (exec (Stmt.While _ _ _ _) _) _ _ _); refine of_stop ?_))
local macro_rules | `(tactic| walk_at "subscriptTail Name") => `(tactic| ((with_reducible show wpAny _ _ (subscriptTail _ _ (Value.ref _) (Value.int 0 _)) _ _ _); k_dflt (refine' item_litK ?y1 ?y2 ?y3 ?y4 ?_ ?y6; (case y1 => exact News.isList (by k_asm) (by k_mem)); (case y2 => decide); (case y3 => decide); (case y4 => assumption); (case y6 => with_unfolding_all rfl); k_whole)))
local macro_rules | `(tactic| k_mem) => `(tactic| assumption)
local macro_rules | `(tactic| walk_at "subscriptTail Name Slice ref ref") => `(tactic| (k_here; (with_reducible show wpAny _ _ (subscriptTail _ (PySem.Expr.Slice _ _ none _) (Value.ref _) (Value.ref _)) _ _ _); k_dflt (refine' kms_slice_lit ?zF ?zN ?zl ?zp ?zq ?ze ?_ ?zs ?zt ?zz; (case zF => k_asm); (case zN => k_asm); (case zl => kmk_list); (case zp => kmk_part); (case zq => kmk_part); (case ze => exact rfl); (case zs => with_unfolding_all rfl); (case zt => kmk_pure); (case zz => assumption)); intro D' h' F' N' l1; (try k_lt l1); (try k_sweep)))
local macro_rules | `(tactic| walk_at "exec For Name Subscript cons nil") => `(tactic| (k_here; (rename Fr _ _ _ _ => lF'); (with_unfolding_all refine' For_stop lF' ?k1 ?k2 ?_; (case k1 => exact rfl); (case k2 => exact rfl); k_whole)))
set_option maxRecDepth 100000 in
set_option maxHeartbeats 4000000 in
theorem plan_call (B : Below A₀ base outer h₀) (F : Fr h₀ L s.heap m) (X : (hd.heap_39 w.params).In h₀) (N : News h₀ L s.heap news) (T : Top hd.view_39 (looseW hd.view_39 LL) mean mg mb h₀) 
    {c n : Nat} {vs : List Value} (hc : (c, listOf vs.toArray n) ∈ news) (hv : ∀ v ∈ vs, ∃ j t, v = .int j t ∧ 0 ≤ j ∧ j < 10000) (h3 : 3 ≤ vs.length) (h19 : vs.length ≤ 19) (hsz : vs.toArray.size ≤ sizeLine)
    (hQ : ∀ h' tk ls ts k r r0 steps, Fr h₀ L h' m → News h₀ L h' ((ls, (listOf (List.toArray ts) k : Obj)) :: (r ++ r0)) → (∀ p ∈ r ++ r0, p.1 ≠ ls) → (∀ p ∈ news, p ∈ r0) → Tups r ts steps → hrun steps 0 = some 1 → steps.length ≤ 40 → Q (.ref ls) { s with heap := h', toks := tk }) :
    wpAny (model PW w) (AT 560 gd (envOf cn (SC nms more) L a ccd) outer) (PySem.call (.ref 294) [.ref c]) Q E s := by
  refine wpAny_call ?_
  k_enter
  k_steps
  rename News _ _ _ _ => N1
  rename Fr _ _ _ _ => F1
  rename _ ∧ _ ∧ AllLt _ _ => q1
  rename _ ∧ AllLt _ _ => q2
  rename ∀ p ∈ news, p.1 < _ => q3
  refine ⟨?_⟩
  obtain ⟨N2, hap, hin⟩ := plan_start N1 q1 q2 q3
  obtain ⟨c0, tc, hx0⟩ := plan_first hv h3
  clear N1
  refine kdl_iter (J := JP c _ _) rfl (List.Mem.tail _ (List.Mem.head _)) F1 N2 ⟨[], 0, [], [], 0, by rfl, ⟨_, by rfl⟩, by rfl, rfl, hap, .nil, rfl, Nat.le_refl _, by omega, Nat.le_refl _⟩ ?turn ?done
  case turn =>
    clear F1 N2
    rintro i v m₁ nx h tk own hv' hoff hmem ⟨ts, k, r, steps, ht, e1, ⟨t2, e2⟩, e3, rfl, hap0, hts, hr, hle, h1, hlen⟩ F₁ N₁
    obtain ⟨j, tj, rfl, hj0, hj1⟩ := hv _ (pick_mem hv')
    obtain ⟨N₂, hap'⟩ := led_on N₁ hap0 hoff
    have F₂ := fr_known (fr_known (fr_known F₁ (n := Str.ofString "steps") (by rw [if_neg (by decide)]; exact e1)) (n := Str.ofString "height") (by rw [if_neg (by decide), if_neg (by decide)]; exact e2)) (n := Str.ofString "cells") (by rw [if_neg (by decide), if_neg (by decide), if_neg (by decide)]; exact e3)
    have hsz2 : ts.toArray.size ≤ sizeLine := plan_room hv' hlen hts h19
    clear F₁ N₁
    k_steps
    all_goals (rename Fr _ _ _ _ => F9; rename News _ _ _ _ => N9; rename _ ∧ _ ∧ AllLt _ _ => q9)
    all_goals refine plan_end2 hle hlen hts hr hap0 hoff (List.Mem.head _) F9 N9 q9 (by rfl) (by rfl) (by rfl) ?_
    all_goals (have z6 := fm (a := j.fdiv 8) (b := 6) (by decide); have z8 := fm (a := j.fdiv 8) (b := 8) (by decide); have z10 := fm (a := j.fdiv 8) (b := 10) (by decide); omega)
  case done =>
    clear F1 N2
    rintro m₁ nx h tk ⟨ts, k, r, steps, ht, e1, ⟨t2, e2⟩, e3, rfl, hap0, hts, hr, hle, h1, hlen⟩ F₁ N₁
    dsimp only
    have F₂ := fr_known (fr_known (fr_known F₁ (n := Str.ofString "steps") e1) (n := Str.ofString "height") (by rw [if_neg (by decide)]; exact e2)) (n := Str.ofString "cells") (by rw [if_neg (by decide), if_neg (by decide)]; exact e3)
    k_steps
    refine ⟨?_⟩
    refine While_inv (J := fun n m' nx => JW c _ _ n m' nx) (n₀ := ht) F₂ N₁ ⟨ts, k, r, steps, by rfl, ⟨_, by rfl⟩, by rfl, rfl, hap0, hts, hr, ?hpos, ?hlen⟩ ?wturn
    case hpos => exact plan_pos h1 h3
    case hlen => exact plan_len hlen hle h19
    case wturn =>
      clear F₂ N₁
      rintro n' m₂ nx2 h2 tk2 F₁ N₁ ⟨ts', k', r', steps', e1', ⟨t2', e2'⟩, e3', rfl, hap0', hts', hr', hpos', hlen'⟩
      have F₂ := fr_known (fr_known (fr_known F₁ (n := Str.ofString "steps") e1') (n := Str.ofString "height") (by rw [if_neg (by decide)]; exact e2')) (n := Str.ofString "cells") (by rw [if_neg (by decide), if_neg (by decide)]; exact e3')
      clear F₁
      have hcm := List.mem_append_right r' (hin _ hc)
      have hsz2 : ts'.toArray.size ≤ sizeLine := plan_room2 hlen' hts'
      k_steps
      · rename Fr _ _ _ _ => F9
        rename News _ _ _ _ => N9
        rename _ ∧ AllLt _ _ => q9
        have z6 := fm (a := c0.fdiv 4 + (n' : Int)) (b := 6) (by decide)
        exact plan_wend hlen' hts' hr' hap0' F9 N9 q9 (by rfl) (by rfl) (by rfl) ⟨rfl, z6.1, z6.2, by omega, rfl⟩
      · rename Fr _ _ _ _ => F9
        rename News _ _ _ _ => N9
        have e9 : n' = 1 := by omega
        rw [e9] at hr'
        exact hQ _ _ _ _ _ _ _ _ F9 N9 hap0' hin hts' hr' (by omega)
end
end Mine
end
section
theorem Mine.quiet_S0 : True := by
  w_top off
  trivial
open PySem PySem.W PySem.W.X PyProof.Rows PySem.Calls PyProof.V PySem.Spec
namespace Mine
def truthOf (κ : Nat) : AV → Option Bool
  | .num i => some (decide (i ≠ 0))
  | .lost _ => if κ = 3 then none else some false
/-- one step of the machine, the stack with its top first -/
def absStep (κ : Nat) (cw : Nat × Nat) (st : List AV) : Option (List AV) := match cw.1, st with
  | 0, st => some ((if cw.2 > 6 then .lost (cw.2 - 7) else .num ((cw.2 : Int) - 3)) :: st)
  | 1, a :: st => (oneOf κ cw.2 a).map (· :: st)
  | 2, b :: a :: st => (twoOf κ cw.2 a b).map fun r => .num r :: st
  | 3, asked :: other :: one :: st => (truthOf κ asked).map fun t => (if t then one else other) :: st
  | _, _ => none
def absRun (κ : Nat) : List (Nat × Nat) → Nat → List AV → Nat ⊕ List AV
  | [], _, st => .inr st
  | x :: r, k, st => match absStep κ x st with
    | none => .inl k
    | some st' => absRun κ r (k + 1) st'
theorem absRun_next {κ : Nat} {x : Nat × Nat} {r : List (Nat × Nat)} {k : Nat} {st st' : List AV} (h : absStep κ x st = some st') : absRun κ (x :: r) k st = absRun κ r (k + 1) st' := by
  show (match absStep κ x st with | none => _ | some st' => _) = _
  rw [h]
theorem absRun_fail {κ : Nat} {x : Nat × Nat} {r : List (Nat × Nat)} {k : Nat} {st : List AV} (h : absStep κ x st = none) : absRun κ (x :: r) k st = .inl k := by
  show (match absStep κ x st with | none => _ | some st' => _) = _
  rw [h]
theorem drop_step {steps : List (Nat × Nat)} {i : Nat} (h : i < steps.length) : steps.drop i = steps[i] :: steps.drop (i + 1) := List.drop_eq_getElem_cons h
theorem hrun_cons {x : Nat × Nat} {r : List (Nat × Nat)} {h k : Nat} (e : hrun (x :: r) h = some k) : ∃ h', hstep h x = some h' ∧ hrun r h' = some k := by
  simp only [hrun] at e
  exact Option.bind_eq_some_iff.mp e
/-- the outcome of a run, as the law's functions tell it -/
def outOf : Nat ⊕ List AV → Str × Int
  | .inl k => ("fails", k)
  | .inr (.num i :: _) => ("ends", i)
  | .inr _ => ("undefined", 0)
theorem fm1000 (a : Int) : -1000 < a.fmod 1000 ∧ a.fmod 1000 < 1000 := by
  have := fm (a := a) (b := 1000) (by decide)
  omega
theorem small_one {κ w : Nat} {a r : AV} (h : oneOf κ w a = some r) (ha : small a) : small r := by
  have hn : ∀ x, -1000 < lawNum x ∧ lawNum x < 1000 := by
    intro x
    unfold lawNum
    have := fm (a := ((7 * x.length + sumTo x x.length : Nat) : Int)) (b := 997) (by decide)
    omega
  cases a with
  | num i =>
    simp only [oneOf] at h
    injection h with h
    subst h
    simp only [small] at ha ⊢
    split
    · exact fm1000 _
    · split <;> decide
    · exact hn _
    · exact ha
  | lost k =>
    simp only [oneOf] at h
    split at h <;> (try split at h) <;> (try cases h)
    all_goals first | exact trivial | exact hn _ | (simp only [small]; decide)
theorem small_two {κ w : Nat} {a b : AV} {r : Int} (h : twoOf κ w a b = some r) : small (.num r) := by
  simp only [small]
  cases a <;> cases b
  · simp only [twoOf] at h
    injection h with h
    subst h
    split
    · exact fm1000 _
    · exact fm1000 _
    · exact fm1000 _
    · split <;> decide
    · split <;> decide
    · split <;> decide
  all_goals (simp only [twoOf] at h; split at h; cases h; injection h with h; subst h; split <;> decide)
/-- what the next step finds on the stack -/
inductive StepOf : Nat × Nat → List AV → Nat → Prop
  | s0 {w : Nat} {st : List AV} : w < 10 → StepOf (0, w) st (st.length + 1)
  | s1 {w : Nat} {a : AV} {st : List AV} : w < 8 → StepOf (1, w) (a :: st) (st.length + 1)
  | s2 {w : Nat} {b a : AV} {st : List AV} : w < 6 → StepOf (2, w) (b :: a :: st) (st.length + 1)
  | s3 {w : Nat} {x y z : AV} {st : List AV} : StepOf (3, w) (x :: y :: z :: st) (st.length + 1)
theorem stepOf {x : Nat × Nat} {st : List AV} {h : Nat} (e : hstep st.length x = some h) : StepOf x st h := by
  obtain ⟨c, w⟩ := x
  rcases c with _ | _ | _ | _ | c
  · simp only [hstep] at e
    split at e
    · injection e with e
      subst e
      exact .s0 (by assumption)
    · cases e
  · simp only [hstep] at e
    split at e
    · rename_i q
      injection e with e
      subst e
      cases st with
      | nil => exact absurd q.2 (by simp)
      | cons a st => exact .s1 q.1
    · cases e
  · simp only [hstep] at e
    split at e
    · rename_i q
      injection e with e
      subst e
      match st, q with
      | b :: a :: st, q => exact .s2 q.1
      | [_], q => exact absurd q.2 (by simp)
      | [], q => exact absurd q.2 (by simp)
    · cases e
  · simp only [hstep] at e
    split at e
    · rename_i q
      injection e with e
      subst e
      match st, q with
      | x :: y :: z :: st, q => exact .s3
      | [_, _], q => exact absurd q (by simp)
      | [_], q => exact absurd q (by simp)
      | [], q => exact absurd q (by simp)
    · cases e
  · cases e
end Mine
end
section
theorem Mine.quiet_T0 : True := by
  w_top off
  trivial
open PySem PySem.W PySem.W.X PyProof.Rows PySem.Calls PyProof.V PySem.Spec
namespace Mine
section
variable {w : World} {mean : ExcName → Option Value} {mg mb : Str → Option Value} {gd : Option (List Code)} {cn : Str} {nms : List (Str × NameKind)} {more : List (Str × Const)} {a : Addr} {ccd : Value} {outer : List Env} {A₀ : Around} {base h₀ : Heap} {L : Addr} {m : Str → Option Value} {news : List (Addr × Obj)} {s : Shared} {E : Value → Shared → Prop}
local macro_rules | `(tactic| walk_at "call ref") => `(tactic| ((with_reducible show wpAny _ _ (PySem.call (Value.ref 130) _) _ _ _); k_dflt (refine' fail0_at ⟨rfl, Nat.le_of_ble_eq_true rfl, rfl, rfl, Nat.le_of_ble_eq_true rfl⟩ ?b ?f ?x ?t ?d ?u ?c ?n ?s ?_; (case b => assumption); (case f => k_asm); (case x => assumption); (case t => assumption); (case d => assumption); (case u => assumption); (case c => first | exact isU0 | exact isU1 | exact isU2 | exact isU3); (case n => k_asm); (case s => exact fun p hp => hp)); intro e t h' G tk' vs FG R U; k_whole))
set_option maxRecDepth 100000 in
set_option maxHeartbeats 4000000 in
theorem truth_lost {κ : Nat} {Q : Bool → Shared → Prop} (hκ : κ < 4) (B : Below A₀ base outer h₀) (F : Fr h₀ L s.heap m) (X : (hd.heap_39 w.params).In h₀) (N : News h₀ L s.heap news) (T : Top hd.view_39 (looseW hd.view_39 LL) mean mg mb h₀) 
    (D : KtsDicts (outer.filterMap (·.frame)) h₀) {x k : Nat} (ux : ULed news (cOf κ) x k)
    (hQ : κ ≠ 3 → ∀ h' tk, Fr h₀ L h' m → News h₀ L h' news → Q false { s with heap := h', toks := tk })
    (hE : κ = 3 → ∀ e t h' G tk' vs, Fr h₀ L G m → RaisedS base G (envOf cn (SC nms more) L a ccd :: outer) e (.ref 67) t vs news h' → G.UpToSlots h' → E (.ref e) { s with heap := h', toks := tk' }) :
    wpAny (model PW w) (AT 540 gd (envOf cn (SC nms more) L a ccd) outer) (truthy (.ref x)) Q E s := by
  rcases (by omega : κ = 0 ∨ κ = 1 ∨ κ = 2 ∨ κ = 3) with rfl | rfl | rfl | rfl
  all_goals (
    obtain ⟨dx, nx, sx, hx, hdx⟩ := ux.data
    dsimp only [cOf] at hx ux)
  all_goals k_steps
  all_goals first | ((rename RaisedS _ _ _ _ _ _ _ _ _ => hRR); exact hE rfl _ _ _ _ _ _ (by assumption) hRR (by assumption)) | exact hQ (by decide) _ _ (by assumption) (by assumption)
set_option maxRecDepth 100000 in
set_option maxHeartbeats 4000000 in
theorem isU_lost {κ : Nat} {Q : Value → Shared → Prop} (hκ : κ < 4) (B : Below A₀ base outer h₀) (F : Fr h₀ L s.heap m) (X : (hd.heap_39 w.params).In h₀) (N : News h₀ L s.heap news) (T : Top hd.view_39 (looseW hd.view_39 LL) mean mg mb h₀) 
    {x k : Nat} (ux : ULed news (cOf κ) x k)
    (hQ : ∀ h' tk, Fr h₀ L h' m → News h₀ L h' news → Q (.bool true) { s with heap := h', toks := tk }) :
    wpAny (model PW w) (AT 540 gd (envOf cn (SC nms more) L a ccd) outer) (PySem.call (.builtin "isinstance") [.ref x, .ref 197]) Q E s := by
  rcases (by omega : κ = 0 ∨ κ = 1 ∨ κ = 2 ∨ κ = 3) with rfl | rfl | rfl | rfl
  all_goals (
    obtain ⟨dx, nx, sx, hx, hdx⟩ := ux.data
    dsimp only [cOf] at hx ux)
  all_goals k_steps
  all_goals first | exact hQ _ _ (by assumption) (by assumption)
theorem truth_at {A : Around} {κ : Nat} {Q : Bool → Shared → Prop} {led : List (Addr × Obj)} (hA : A.handled = none ∧ A.depth ≤ 540 ∧ A.frames = some (envOf cn (SC nms more) L a ccd :: outer) ∧ A.guards = gd ∧ A.units ≤ 1080) (hκ : κ < 4) (B : Below A₀ base outer h₀) (F : Fr h₀ L s.heap m) (X : (hd.heap_39 w.params).In h₀) (N : News h₀ L s.heap news) (T : Top hd.view_39 (looseW hd.view_39 LL) mean mg mb h₀) 
    (D : KtsDicts (outer.filterMap (·.frame)) h₀) {x k : Nat} (ux : ULed led (cOf κ) x k) (hs : ∀ p ∈ led, p ∈ news)
    (hQ : κ ≠ 3 → ∀ h' tk, Fr h₀ L h' m → News h₀ L h' news → Q false { s with heap := h', toks := tk })
    (hE : κ = 3 → ∀ e t h' G tk' vs, Fr h₀ L G m → RaisedS base G (envOf cn (SC nms more) L a ccd :: outer) e (.ref 67) t vs news h' → G.UpToSlots h' → E (.ref e) { s with heap := h', toks := tk' }) :
    wpAny (model PW w) A (truthy (.ref x)) Q E s := by
  obtain ⟨c1, c2, c3, c4, c5⟩ := hA
  exact wpAny_le (truth_lost hκ B F X N T D (ux.mono hs) hQ hE) c1 (by show A.depth ≤ 540; omega) c3 c4 (by show A.units ≤ 2 * 540; omega)
theorem isU_at {A : Around} {κ : Nat} {Q : Value → Shared → Prop} {led : List (Addr × Obj)} (hA : A.handled = none ∧ A.depth ≤ 540 ∧ A.frames = some (envOf cn (SC nms more) L a ccd :: outer) ∧ A.guards = gd ∧ A.units ≤ 1080) (hκ : κ < 4) (B : Below A₀ base outer h₀) (F : Fr h₀ L s.heap m) (X : (hd.heap_39 w.params).In h₀) (N : News h₀ L s.heap news) (T : Top hd.view_39 (looseW hd.view_39 LL) mean mg mb h₀) 
    {x k : Nat} (ux : ULed led (cOf κ) x k) (hs : ∀ p ∈ led, p ∈ news)
    (hQ : ∀ h' tk, Fr h₀ L h' m → News h₀ L h' news → Q (.bool true) { s with heap := h', toks := tk }) :
    wpAny (model PW w) A (PySem.call (.builtin "isinstance") [.ref x, .ref 197]) Q E s := by
  obtain ⟨c1, c2, c3, c4, c5⟩ := hA
  exact wpAny_le (isU_lost hκ B F X N T (ux.mono hs) hQ) c1 (by show A.depth ≤ 540; omega) c3 c4 (by show A.units ≤ 2 * 540; omega)
end
end Mine
end
section
theorem Mine.quiet_T1 : True := by
  w_top off
  trivial
open PySem PySem.W PySem.W.X PyProof.Rows PySem.Calls PyProof.V PySem.Spec
namespace Mine
theorem len_at {prog : Program} {w : World} {A : Around} {E : Value → Shared → Prop} {s : Shared} {l : Addr} {items : Array Value} {n : Nat} {Q : Value → Shared → Prop} (hl : s.heap.IsList l items) (e : items.size = n) (hn : n ≤ 1000)
    (h : Q (.int (n : Int) (s.toks + 1)) { s with toks := s.toks + 1 + 1 }) : wpAny (model prog w) A (PySem.call (.builtin "len") [.ref l]) Q E s := by
  subst e
  exact len_list hl (by omega) h
/-- the stack's values stand for the abstract stack (its top first) -/
inductive Stk (led : List (Addr × Obj)) (C : Addr) : List Value → List AV → Prop
  | nil : Stk led C [] []
  | snoc {vs : List Value} {st : List AV} {v : Value} {a : AV} : Stk led C vs st → VRel led C v a → Stk led C (vs ++ [v]) (a :: st)
theorem VRel.mono {led led' : List (Addr × Obj)} {C : Addr} {v : Value} {a : AV} (h : VRel led C v a) (hs : ∀ p ∈ led, p ∈ led') : VRel led' C v a := by
  cases h with
  | num => exact .num
  | lost u => exact .lost (u.mono hs)
theorem Stk.mono {led led' : List (Addr × Obj)} {C : Addr} {vs : List Value} {st : List AV} (h : Stk led C vs st) (hs : ∀ p ∈ led, p ∈ led') : Stk led' C vs st := by
  induction h with
  | nil => exact .nil
  | snoc _ b ih => exact .snoc ih (b.mono hs)
theorem Stk.length {led : List (Addr × Obj)} {C : Addr} {vs : List Value} {st : List AV} (h : Stk led C vs st) : vs.length = st.length := by
  induction h with
  | nil => rfl
  | snoc _ _ ih => simp [ih]
theorem Stk.cons {led : List (Addr × Obj)} {C : Addr} {vs : List Value} {a : AV} {st : List AV} (h : Stk led C vs (a :: st)) : ∃ vs' v, vs = vs' ++ [v] ∧ Stk led C vs' st ∧ VRel led C v a := by
  cases h with
  | snoc x y => exact ⟨_, _, rfl, x, y⟩
theorem Stk.snoc' {led : List (Addr × Obj)} {C : Addr} {vs : List Value} {st : List AV} {v : Value} {a : AV} (h : Stk led C vs st) (hv : VRel led C v a) : Stk led C (vs ++ [v]) (a :: st) := .snoc h hv
theorem kl_last_snoc : ∀ (l : List Value) (v : Value), kl_last (l ++ [v]) = some (l, v)
  | [], v => rfl
  | x :: r, v => by
    show (match kl_last (r ++ [v]) with | some (p, y) => some (x :: p, y) | none => some ([], x)) = _
    rw [kl_last_snoc r v]
def JD (κ : Nat) (steps : List (Nat × Nat)) (kv : Value) (ls st : Addr) (r0 : List (Addr × Obj)) (i : Nat) (m : Str → Option Value) (nx : List (Addr × Obj)) : Prop :=
  ∃ vs n r ab, m (Str.ofString "stack") = some (.ref st) ∧ m (Str.ofString "kind") = some kv ∧ m (Str.ofString "steps") = some (.ref ls) ∧ nx = (st, (listOf (List.toArray vs) n : Obj)) :: (r ++ r0) ∧ (∀ p ∈ r ++ r0, p.1 ≠ st) ∧ Stk (r ++ r0) (cOf κ) vs ab ∧ (∀ x ∈ ab, small x) ∧ absRun κ steps 0 [] = absRun κ (steps.drop i) i ab ∧ hrun (steps.drop i) ab.length = some 1 ∧ ab.length ≤ i
theorem done_end {g h' : Heap} {L st ls : Addr} {κ i n : Nat} {o : Obj} {steps : List (Nat × Nat)} {kv v : Value} {mn r r0 own : List (Addr × Obj)} {ws : List Value} {ab : List AV} {m'' : Str → Option Value} {s₁ : Shared} {tk : Nat}
    (hap : ∀ p ∈ mn ++ ((r ++ r0) ++ own), p.1 ≠ st) (hoff : OwnOff own (((st, o) :: (r ++ r0)).map (·.1))) (hmo : ∀ p ∈ mn, ∀ q ∈ (r ++ r0) ++ own, q.1 ≠ p.1)
    (F9 : Fr g L h' m'') (N9 : News g L h' ((st, listOf (ws.toArray.push v) n) :: (mn ++ ((r ++ r0) ++ own))))
    (e1 : m'' (Str.ofString "stack") = some (.ref st)) (e2 : m'' (Str.ofString "kind") = some kv) (e3 : m'' (Str.ofString "steps") = some (.ref ls))
    (hst : Stk (mn ++ (r ++ r0)) (cOf κ) (ws ++ [v]) ab) (hsm : ∀ x ∈ ab, small x) (h1 : absRun κ steps 0 [] = absRun κ (steps.drop (i + 1)) (i + 1) ab) (h2 : hrun (steps.drop (i + 1)) ab.length = some 1) (h3 : ab.length ≤ i + 1) :
    InvEndG g L (JD κ steps kv ls st r0 (i + 1)) own s₁ { s₁ with heap := h', toks := tk } := by
  refine InvEndG.intro (nx := (st, (listOf (List.toArray (ws ++ [v])) n : Obj)) :: ((mn ++ r) ++ r0)) F9 N9 ⟨ws ++ [v], n, mn ++ r, ab, e1, e2, e3, rfl, ?_, ?_, hsm, h1, h2, h3⟩ ?_ ?_ ?_
  · intro p hp
    rw [List.append_assoc] at hp
    refine hap p ?_
    rw [← List.append_assoc]
    exact List.mem_append_left _ hp
  · rw [List.append_assoc]
    exact hst
  · intro p hp b hb e
    obtain ⟨z, hz, rfl⟩ := List.mem_map.mp hb
    rcases List.mem_cons.mp hz with rfl | hz
    · exact hoff p hp _ (List.mem_map.mpr ⟨_, .head _, rfl⟩) e
    · rw [List.append_assoc] at hz
      rcases List.mem_append.mp hz with hz | hz
      · exact hmo z hz p (List.mem_append_right _ hp) e
      · exact hoff p hp _ (List.mem_map.mpr ⟨_, .tail _ hz, rfl⟩) e
  · intro p hp
    rcases List.mem_cons.mp hp with rfl | hp
    · rw [← List.push_toArray]
      exact .head _
    · rw [List.append_assoc] at hp
      refine .tail _ ?_
      rw [← List.append_assoc]
      exact List.mem_append_left _ hp
  · intro p hp
    exact .tail _ (List.mem_append_right _ (List.mem_append_right _ hp))
theorem led_sub {st : Addr} {o : Obj} {l own : List (Addr × Obj)} : ∀ p ∈ l, p ∈ (st, o) :: (l ++ own) := fun p hp => .tail _ (List.mem_append_left _ hp)
section
variable {w : World} {mean : ExcName → Option Value} {mg mb : Str → Option Value} {gd : Option (List Code)} {cn : Str} {nms : List (Str × NameKind)} {more : List (Str × Const)} {a : Addr} {ccd : Value} {A₀ : Around} {base h₀ : Heap} {L : Addr} {m : Str → Option Value} {news : List (Addr × Obj)} {s : Shared} {Q E : Value → Shared → Prop}
theorem made_st {A : Around} {outer : List Env} {st : Addr} {o : Obj} {rest : List (Addr × Obj)} {κ way : Nat} {kI wI : Int} {t0 t1 : Tok} (hκ : κ < 4) (hw : way < 3) (hk : kI = (κ : Int)) (hwI : wI = (way : Int)) (hA : A.handled = none ∧ A.depth ≤ 540 ∧ A.frames = some (envOf cn (SC nms more) L a ccd :: outer) ∧ A.guards = gd ∧ A.units ≤ 1080) (B : Below A₀ base outer h₀) (F : Fr h₀ L s.heap m) (X : (hd.heap_39 w.params).In h₀) (N : News h₀ L s.heap ((st, o) :: rest)) (T : Top hd.view_39 (looseW hd.view_39 LL) mean mg mb h₀) (hap : ∀ p ∈ rest, p.1 ≠ st)
    (h : ∀ h' tk x mn, Fr h₀ L h' m → News h₀ L h' ((st, o) :: (mn ++ rest)) → (∀ p ∈ mn ++ rest, p.1 ≠ st) → (∀ p ∈ mn, ∀ q ∈ rest, q.1 ≠ p.1) → ULed mn (cOf κ) x way → Q (.ref x) { s with heap := h', toks := tk }) : wpAny (model PW w) A (PySem.call (.ref 280) [.int kI t0, .int wI t1]) Q E s := by
  refine made_at hκ hw hk hwI hA B F X N T fun h' tk x mn F' N' hne U => h h' tk x mn F' ?_ ?_ (fun p hp q hq => hne p hp q (.tail _ hq)) U
  · intro p hp
    refine N' p ?_
    rcases List.mem_cons.mp hp with rfl | hp
    · exact List.mem_append_right _ (.head _)
    · rcases List.mem_append.mp hp with hp | hp
      · exact List.mem_append_left _ hp
      · exact List.mem_append_right _ (.tail _ hp)
  · intro p hp
    rcases List.mem_append.mp hp with hp | hp
    · exact fun e => hne p hp _ (.head _) e.symm
    · exact hap p hp
local macro_rules | `(tactic| walk_at "exec For Name Call cons nil") => `(tactic| (k_here; (rename Fr _ _ _ _ => lF'); (with_unfolding_all refine' For_stop lF' ?k1 ?k2 ?_; (case k1 => exact rfl); (case k2 => exact rfl); k_whole)))
local macro_rules | `(tactic| walk_at "call builtin:len") => `(tactic| ((with_reducible show wpAny _ _ (PySem.call (Value.builtin "len") [Value.ref _]) _ _ _); k_dflt (refine' len_at ?yl ?ye ?yn ?_; (case yl => exact News.isList (by k_asm) (by k_mem)); (case ye => assumption); (case yn => omega)); k_whole))
local macro_rules | `(tactic| walk_at "subscriptTail Name") => `(tactic| ((with_reducible show wpAny _ _ (subscriptTail _ _ (Value.ref _) (Value.int _ _)) _ _ _); k_dflt (refine' item_litK ?y1 ?y2 ?y3 ?y4 ?_ ?y6; (case y1 => exact News.isList (by k_asm) (by k_mem)); (case y4 => assumption); (case y2 => omega); (case y3 => omega); (case y6 => with_unfolding_all rfl); k_whole)))
local macro_rules | `(tactic| walk_at "assign Tuple") => `(tactic| ((with_reducible show wpAny _ _ (assign (Expr.Tuple _ _ _) _ (Value.ref _)) _ _ _); k_dflt (refine' unpackN_ ?zF ?zN ?zT ?z1 ?z2 ?z3 ?_; (case zF => k_asm); (case zN => k_asm); (case zT => exact News.isTup (by k_asm) (List.Mem.tail _ (by assumption))); (case z1 => exact rfl); (case z2 => exact rfl); (case z3 => exact rfl)); intro h' F' N'; (try k_sweep)))
local macro_rules | `(tactic| walk_at "call builtin:list.pop") => `(tactic| (k_here; (with_reducible show wpAny _ _ (call (Value.builtin _) [Value.ref _]) _ _ _); k_dflt (refine' kl_pop ?zF ?zN ?ze ?zU ?zz ?_; (case zF => k_asm); (case zN => k_asm); (case zU => exact Upd.head (by assumption)); (case ze => exact kl_last_snoc _ _); (case zz => assumption)); intro h' F' N'; (try k_sweep)))
local macro_rules | `(tactic| walk_at "callWith") => `(tactic| ((with_reducible show wpAny _ _ (callWith _ (Value.builtin "list.append") [_] _ _) _ _ _); refine callWith_method1 ?_))
local macro_rules | `(tactic| walk_at "subscriptTail Name Constant ref int") => `(tactic| ((with_reducible show wpAny _ _ (subscriptTail _ _ (Value.ref _) (Value.int _ _)) _ _ _); k_dflt (refine' item_litK ?y1 ?y2 ?y3 ?y4 ?_ ?y6; (case y1 => exact News.isList (by k_asm) (by k_mem)); (case y4 => assumption); (case y2 => decide); (case y3 => decide); (case y6 => with_unfolding_all rfl); k_whole)))
local macro_rules | `(tactic| walk_at "call builtin:list.append") => `(tactic| (k_here; (with_reducible show wpAny _ _ (call (Value.builtin _) [Value.ref _, _]) _ _ _); k_dflt (refine' append_K ?zF ?zN ?zU ?_ ?zz; (case zF => k_asm); (case zN => k_asm); (case zU => k_upd); (case zz => assumption)); intro h' F' N'; (try k_sweep)))
local macro_rules | `(tactic| k_upd) => `(tactic| exact Upd.head (by assumption))
local macro_rules | `(tactic| k_mem) => `(tactic| first | assumption | exact List.Mem.tail _ (by assumption))
local macro_rules | `(tactic| walk_at "call ref") => `(tactic| ((with_reducible show wpAny _ _ (PySem.call (Value.ref 280) _) _ _ _); k_dflt (refine' made_st (by assumption) ?y1 (by assumption) ?y2 ⟨rfl, Nat.le_of_ble_eq_true rfl, rfl, rfl, Nat.le_of_ble_eq_true rfl⟩ ?b ?f ?x ?n ?t ?p ?_; (case b => assumption); (case t => assumption); (case f => k_asm); (case x => assumption); (case n => k_asm); (case p => assumption); (case y2 => assumption); (case y1 => omega)); intro h' tk' x' mn' F' N' hap' hmo' U'; k_whole))
local macro_rules | `(tactic| walk_at "call ref") => `(tactic| (focus ((with_reducible show wpAny _ _ (PySem.call (Value.ref 315) _) _ _ _); k_dflt (refine' one_done_at ⟨rfl, Nat.le_of_ble_eq_true rfl, rfl, rfl, Nat.le_of_ble_eq_true rfl⟩ (by assumption) ?b ?f ?x ?n ?t ?d ?xb ?y1 rfl led_sub ?r1 ?s1 ?_ ?_; (case b => assumption); (case f => k_asm); (case x => assumption); (case n => k_asm); (case t => assumption); (case d => assumption); (case xb => assumption); (case y1 => assumption); (case r1 => assumption); (case s1 => assumption)); (all_goals (first | (intro r' hr' v' h' tk' hv' F' N') | (intro hn' e t h' G tk' vs FG R U))); (all_goals k_whole))))
local macro_rules | `(tactic| walk_at "call ref") => `(tactic| (focus ((with_reducible show wpAny _ _ (PySem.call (Value.ref 308) _) _ _ _); k_dflt (refine' two_done_at ⟨rfl, Nat.le_of_ble_eq_true rfl, rfl, rfl, Nat.le_of_ble_eq_true rfl⟩ (by assumption) ?b ?f ?x ?n ?t ?d ?y1 rfl ?r1 ?r2 ?s1 ?s2 ?_ ?_; (case b => assumption); (case f => k_asm); (case x => assumption); (case n => k_asm); (case t => assumption); (case d => assumption); (case y1 => assumption); (case r1 => exact VRel.mono (by assumption) led_sub); (case r2 => exact VRel.mono (by assumption) led_sub); (case s1 => assumption); (case s2 => assumption)); (all_goals (first | (intro r' hr' h' tk' t' F' N') | (intro hn' e t h' G tk' vs FG R U))); (all_goals k_whole))))
local macro_rules | `(tactic| walk_at "truthy ref") => `(tactic| (focus ((with_reducible show wpAny _ _ (truthy (Value.ref _)) _ _ _); k_dflt (refine' truth_at ⟨rfl, Nat.le_of_ble_eq_true rfl, rfl, rfl, Nat.le_of_ble_eq_true rfl⟩ (by assumption) ?b ?f ?x ?n ?t ?d ?u led_sub ?_ ?_; (case b => assumption); (case f => k_asm); (case x => assumption); (case n => k_asm); (case t => assumption); (case d => assumption); (case u => assumption)); (all_goals (first | (intro hn' h' tk' F' N') | (intro hn' e t h' G tk' vs FG R U))); (all_goals k_whole))))
local macro_rules | `(tactic| walk_at "call builtin:isinstance") => `(tactic| ((with_reducible show wpAny _ _ (PySem.call (Value.builtin "isinstance") [Value.ref _, Value.ref 197]) _ _ _); k_dflt (refine' isU_at ⟨rfl, Nat.le_of_ble_eq_true rfl, rfl, rfl, Nat.le_of_ble_eq_true rfl⟩ (by assumption) ?b ?f ?x ?n ?t ?u ?s ?_; (case b => assumption); (case f => k_asm); (case x => assumption); (case n => k_asm); (case t => assumption); (case u => assumption); (case s => exact fun p hp => List.Mem.tail _ hp)); intro h' tk' F' N'; k_whole))
set_option maxRecDepth 100000 in
set_option maxHeartbeats 4000000 in
theorem done_call {κ : Nat} (hκ : κ < 4) (B : Below A₀ base [] h₀) (F : Fr h₀ L s.heap m) (X : (hd.heap_39 w.params).In h₀) (N : News h₀ L s.heap news) (T : Top hd.view_39 (looseW hd.view_39 LL) mean mg mb h₀) 
    (XB : (hd.heap_39 w.params).In base) (TB : Top hd.view_39 (looseW hd.view_39 LL) mean mg mb base)
    {ls n : Nat} {ts : List Value} {steps : List (Nat × Nat)} {kI : Int} {t0 : Tok} (hk : kI = (κ : Int)) (hl : (ls, listOf ts.toArray n) ∈ news) (ht : Tups news ts steps) (hr : hrun steps 0 = some 1) (h40 : steps.length ≤ 40)
    (hQ : ∀ (si : Str × Int) {h' tk x t1 t2 r}, Fr h₀ L h' m → News h₀ L h' ((x, tup2 (.str si.1 t1) (.int si.2 t2)) :: r) → (∀ p ∈ news, p ∈ r) → si = outOf (absRun κ steps 0 []) → Q (.ref x) { s with heap := h', toks := tk }) :
    wpAny (model PW w) (AT 500 gd (envOf cn (SC nms more) L a ccd) []) (PySem.call (.ref 322) [.int kI t0, .ref ls]) Q E s := by
  have hsz : ts.toArray.size = steps.length := by rw [List.size_toArray, ht.length]
  refine wpAny_call ?_
  kts_go
  k_steps
  rename IsRange _ _ _ _ _ _ _ _ => hrg
  rename Fr _ _ _ _ => F1
  rename News _ _ _ _ => N1
  rename ∀ p ∈ news, p.1 < _ => q1
  refine ⟨?_⟩
  refine range_inv (J := JD κ steps (.int kI t0) ls _ news) rfl hrg (by omega) F1 N1 ⟨[], 0, [], [], by rfl, by rfl, by rfl, rfl, fun p hp => Nat.ne_of_lt (q1 p hp), .nil, (by intro x h; cases h), rfl, hr, Nat.le_refl _⟩ ?turn ?done
  case turn =>
    clear F1 N1
    rintro i t m₁ nx h tk own hi hoff ⟨vs, k, r, ab, e1, e2, e3, rfl, hap0, hst, hsm, hrun1, hr1, hle⟩ F₁ N₁
    obtain ⟨N₂, hap'⟩ := led_on N₁ hap0 hoff
    have F₂ := fr_known (fr_known (fr_known F₁ (n := Str.ofString "stack") (by rw [if_neg (by decide)]; exact e1)) (n := Str.ofString "kind") (by rw [if_neg (by decide), if_neg (by decide)]; exact e2)) (n := Str.ofString "steps") (by rw [if_neg (by decide), if_neg (by decide), if_neg (by decide)]; exact e3)
    clear F₁ N₁ e1 e2 e3
    obtain ⟨ta, k1, k2, g1, g2⟩ := ht.get i hi
    rw [drop_step hi] at hrun1 hr1
    obtain ⟨x, hx⟩ : ∃ x, x = steps[i] := ⟨_, rfl⟩
    rw [← hx] at hrun1 hr1 g2
    clear hx
    obtain ⟨h2, hs1, hr2⟩ := hrun_cons hr1
    have g1' : ts[((i : Nat) : Int).toNat]? = some (.ref ta) := by simpa using g1
    have hlm : (ls, (listOf ts.toArray n : Obj)) ∈ r ++ news ++ own := List.mem_append_left _ (List.mem_append_right _ hl)
    have htm := List.mem_append_left own (List.mem_append_right r g2)
    have hz0 : sizeLine = sizeLine := rfl
    cases stepOf hs1 with
    | s0 hw =>
      rename_i w1
      have hlv := hst.length
      have z2 : vs.toArray.size ≤ sizeLine := by rw [sizeLine_eq]; simp at hle ⊢; omega
      have htm1 : (ta, tup2 (.int 0 k1) (.int (w1 : Int) k2)) ∈ r ++ news ++ own := htm
      clear htm
      by_cases hw6 : 6 < w1
      · have ew : (w1 : Int) - 7 = ((w1 - 7 : Nat) : Int) := by omega
        have ew3 : w1 - 7 < 3 := by omega
        k_steps
        rename Fr _ _ _ _ => F9
        rename News _ _ _ _ => N9
        rename ULed _ _ _ _ => u9
        exact done_end (by assumption) hoff (by assumption) F9 N9 (by rfl) (by rfl) (by rfl) ((hst.mono fun p hp => List.mem_append_right _ hp).snoc' (.lost (u9.mono fun p hp => List.mem_append_left _ hp))) (fun x hx => by rcases List.mem_cons.mp hx with rfl | hx; exact trivial; exact hsm x hx)
          (by rw [hrun1]; exact absRun_next (by show some (_ :: ab) = _; rw [if_pos hw6])) hr2 (by simp only [List.length_cons]; omega)
      · k_steps
        rename Fr _ _ _ _ => F9
        rename News _ _ _ _ => N9
        exact done_end (mn := []) hap' hoff (fun p hp => nomatch hp) F9 N9 (by rfl) (by rfl) (by rfl) (hst.snoc' .num) (fun x hx => by rcases List.mem_cons.mp hx with rfl | hx; (show -1000 < ((w1 : Int) - 3) ∧ ((w1 : Int) - 3) < 1000; omega); exact hsm x hx)
          (by rw [hrun1]; exact absRun_next (by show some (_ :: ab) = _; rw [if_neg hw6])) hr2 (by simp only [List.length_cons]; omega)
    | s1 hw =>
      rename_i w1 a1 ab'
      obtain ⟨vs', v1, rfl, hst', hv1⟩ := hst.cons
      have hlv := hst'.length
      have z1 : (vs' ++ [v1]).toArray.toList.length ≤ sizeLine := by rw [sizeLine_eq]; simp at hle ⊢; omega
      have z2 : vs'.toArray.size ≤ sizeLine := by rw [sizeLine_eq]; simp at hle ⊢; omega
      have htm1 : (ta, tup2 (.int 1 k1) (.int (w1 : Int) k2)) ∈ r ++ news ++ own := htm
      have sm1 := hsm _ (.head _)
      clear htm
      k_steps
      · rename Fr _ _ _ _ => F9
        rename News _ _ _ _ => N9
        rename VRel _ _ _ _ => hv9
        rename oneOf _ _ _ = some _ => hr9
        exact done_end (mn := []) hap' hoff (fun p hp => nomatch hp) F9 N9 (by rfl) (by rfl) (by rfl) (hst'.snoc' hv9) (fun x hx => by rcases List.mem_cons.mp hx with rfl | hx; exact small_one hr9 sm1; exact hsm x (.tail _ hx))
          (by rw [hrun1]; exact absRun_next (by show (oneOf κ w1 a1).map _ = _; rw [hr9]; rfl)) hr2 (by simp only [List.length_cons] at hle ⊢; omega)
      · rename Fr h₀ _ _ _ => F9
        rename News h₀ _ _ _ => N9
        rename oneOf _ _ _ = none => hr9
        exact hQ ("fails", (i : Int)) F9 N9 (fun p hp => .tail _ (List.mem_append_left _ (List.mem_append_right _ hp))) (by rw [hrun1, absRun_fail (by show (oneOf κ w1 a1).map _ = none; rw [hr9]; rfl)]; rfl)
    | s2 hw =>
      rename_i w1 b1 a1 ab'
      obtain ⟨vs1, v1, rfl, hst1, hv1⟩ := hst.cons
      obtain ⟨vs', v2, rfl, hst', hv2⟩ := hst1.cons
      have hlv := hst'.length
      have z1 : (vs' ++ [v2] ++ [v1]).toArray.toList.length ≤ sizeLine := by rw [sizeLine_eq]; simp at hle ⊢; omega
      have z3 : (vs' ++ [v2]).toArray.toList.length ≤ sizeLine := by rw [sizeLine_eq]; simp at hle ⊢; omega
      have z2 : vs'.toArray.size ≤ sizeLine := by rw [sizeLine_eq]; simp at hle ⊢; omega
      have htm1 : (ta, tup2 (.int 2 k1) (.int (w1 : Int) k2)) ∈ r ++ news ++ own := htm
      have sm1 := hsm _ (.head _)
      have sm2 := hsm _ (.tail _ (.head _))
      clear htm
      k_steps
      · rename Fr _ _ _ _ => F9
        rename News _ _ _ _ => N9
        rename twoOf _ _ _ _ = some _ => hr9
        exact done_end (mn := []) hap' hoff (fun p hp => nomatch hp) F9 N9 (by rfl) (by rfl) (by rfl) (hst'.snoc' .num) (fun x hx => by rcases List.mem_cons.mp hx with rfl | hx; exact small_two hr9; exact hsm x (.tail _ (.tail _ hx)))
          (by rw [hrun1]; exact absRun_next (by show (twoOf κ w1 a1 b1).map _ = _; rw [hr9]; rfl)) hr2 (by simp only [List.length_cons] at hle ⊢; omega)
      · rename Fr h₀ _ _ _ => F9
        rename News h₀ _ _ _ => N9
        rename twoOf _ _ _ _ = none => hr9
        exact hQ ("fails", (i : Int)) F9 N9 (fun p hp => .tail _ (List.mem_append_left _ (List.mem_append_right _ hp))) (by rw [hrun1, absRun_fail (by show (twoOf κ w1 a1 b1).map _ = none; rw [hr9]; rfl)]; rfl)
    | s3 =>
      rename_i w1 x1 x2 x3 ab'
      obtain ⟨vs1, v1, rfl, hst1, hv1⟩ := hst.cons
      obtain ⟨vs2, v2, rfl, hst2, hv2⟩ := hst1.cons
      obtain ⟨vs', v3, rfl, hst', hv3⟩ := hst2.cons
      have hlv := hst'.length
      have z1 : (vs' ++ [v3] ++ [v2] ++ [v1]).toArray.toList.length ≤ sizeLine := by rw [sizeLine_eq]; simp at hle ⊢; omega
      have z3 : (vs' ++ [v3] ++ [v2]).toArray.toList.length ≤ sizeLine := by rw [sizeLine_eq]; simp at hle ⊢; omega
      have z4 : (vs' ++ [v3]).toArray.toList.length ≤ sizeLine := by rw [sizeLine_eq]; simp at hle ⊢; omega
      have z2 : vs'.toArray.size ≤ sizeLine := by rw [sizeLine_eq]; simp at hle ⊢; omega
      have htm1 : (ta, tup2 (.int 3 k1) (.int (w1 : Int) k2)) ∈ r ++ news ++ own := htm
      have sm2 := hsm _ (.tail _ (.head _))
      have sm3 := hsm _ (.tail _ (.tail _ (.head _)))
      clear htm
      cases hv1 with
      | num =>
        rename_i j tj
        k_steps
        · rename Fr _ _ _ _ => F9
          rename News _ _ _ _ => N9
          exact done_end (mn := []) hap' hoff (fun p hp => nomatch hp) F9 N9 (by rfl) (by rfl) (by rfl) (hst'.snoc' hv3) (fun x hx => by rcases List.mem_cons.mp hx with rfl | hx; exact sm3; exact hsm x (.tail _ (.tail _ (.tail _ hx))))
            (by rw [hrun1]; exact absRun_next (by show some (_ :: ab') = _; rw [if_pos (decide_eq_true (by assumption))])) hr2 (by simp only [List.length_cons] at hle ⊢; omega)
        · rename Fr _ _ _ _ => F9
          rename News _ _ _ _ => N9
          exact done_end (mn := []) hap' hoff (fun p hp => nomatch hp) F9 N9 (by rfl) (by rfl) (by rfl) (hst'.snoc' hv2) (fun x hx => by rcases List.mem_cons.mp hx with rfl | hx; exact sm2; exact hsm x (.tail _ (.tail _ (.tail _ hx))))
            (by rw [hrun1]; exact absRun_next (by show some (_ :: ab') = _; rw [if_neg (by simp; assumption)])) hr2 (by simp only [List.length_cons] at hle ⊢; omega)
      | lost u1 =>
        k_steps
        · rename Fr _ _ _ _ => F9
          rename News _ _ _ _ => N9
          rename κ ≠ 3 => hk3
          exact done_end (mn := []) hap' hoff (fun p hp => nomatch hp) F9 N9 (by rfl) (by rfl) (by rfl) (hst'.snoc' hv2) (fun x hx => by rcases List.mem_cons.mp hx with rfl | hx; exact sm2; exact hsm x (.tail _ (.tail _ (.tail _ hx))))
            (by rw [hrun1]; exact absRun_next (by show (if κ = 3 then none else some false).map _ = _; rw [if_neg hk3]; rfl)) hr2 (by simp only [List.length_cons] at hle ⊢; omega)
        · rename Fr h₀ _ _ _ => F9
          rename News h₀ _ _ _ => N9
          rename κ = 3 => hk3
          exact hQ ("fails", (i : Int)) F9 N9 (fun p hp => .tail _ (List.mem_append_left _ (List.mem_append_right _ hp))) (by rw [hrun1, absRun_fail (by show (if κ = 3 then none else some false).map _ = none; rw [if_pos hk3]; rfl)]; rfl)
  case done =>
    clear F1 N1
    rintro m₁ nx h tk ⟨vs, k, r, ab, e1, e2, e3, rfl, hap0, hst, hsm, hrun1, hr1, hle⟩ F₁ N₁
    dsimp only
    have F₂ := fr_known F₁ (n := Str.ofString "stack") e1
    clear F₁ e1 e2 e3
    rw [List.drop_length] at hrun1 hr1
    obtain ⟨a1, rfl⟩ : ∃ a1, ab = [a1] := List.length_eq_one_iff.mp (Option.some.inj hr1)
    obtain ⟨vs', v1, rfl, hst', hv1⟩ := hst.cons
    cases hst' with
    | nil =>
      have g1' : ([] ++ [v1])[(0 : Int).toNat]? = some v1 := rfl
      cases hv1 with
      | num =>
        k_steps
        rename Fr h₀ _ _ _ => F9
        rename News h₀ _ _ _ => N9
        exact hQ ("ends", _) F9 N9 (fun p hp => .tail _ (List.mem_append_right _ hp)) (by rw [hrun1]; rfl)
      | lost u1 =>
        k_steps
        rename Fr h₀ _ _ _ => F9
        rename News h₀ _ _ _ => N9
        exact hQ ("undefined", 0) F9 N9 (fun p hp => .tail _ (List.mem_append_right _ hp)) (by rw [hrun1]; rfl)
end
end Mine
end
section
theorem Mine.quiet_T2 : True := by
  w_top off
  trivial
open PySem PySem.W PySem.W.X PyProof.Rows PySem.Calls PyProof.V PySem.Spec
namespace Mine
/-- a value of the told stack -/
inductive TRel : Value → AV → Prop
  | num {i : Int} {t : Tok} : TRel (.int i t) (.num i)
  | lost {k : Nat} {t : Tok} : TRel (.str (printed 2 k) t) (.lost k)
inductive TStk : List Value → List AV → Prop
  | nil : TStk [] []
  | snoc {vs : List Value} {st : List AV} {v : Value} {a : AV} : TStk vs st → TRel v a → TStk (vs ++ [v]) (a :: st)
theorem TStk.length {vs : List Value} {st : List AV} (h : TStk vs st) : vs.length = st.length := by
  induction h with
  | nil => rfl
  | snoc _ _ ih => simp [ih]
theorem TStk.cons {vs : List Value} {a : AV} {st : List AV} (h : TStk vs (a :: st)) : ∃ vs' v, vs = vs' ++ [v] ∧ TStk vs' st ∧ TRel v a := by
  cases h with
  | snoc x y => exact ⟨_, _, rfl, x, y⟩
def JT (κ : Nat) (steps : List (Nat × Nat)) (kv : Value) (ls : Addr) (r0 : List (Addr × Obj)) (i : Nat) (m : Str → Option Value) (nx : List (Addr × Obj)) : Prop :=
  ∃ st vs n ab, m (Str.ofString "stack") = some (.ref st) ∧ m (Str.ofString "kind") = some kv ∧ (∃ b, m (Str.ofString "strict") = some (.bool b) ∧ b = decide (κ = 3)) ∧ m (Str.ofString "steps") = some (.ref ls) ∧ nx = (st, (listOf (List.toArray vs) n : Obj)) :: r0 ∧ (∀ p ∈ r0, p.1 ≠ st) ∧ TStk vs ab ∧ (∀ x ∈ ab, small x) ∧ absRun κ steps 0 [] = absRun κ (steps.drop i) i ab ∧ hrun (steps.drop i) ab.length = some 1 ∧ ab.length ≤ i
theorem pick_last {vs zs : List Value} {k : Int} (hk : k = (vs.length : Int)) : kms_pick (vs ++ zs).toArray.toList (some k) none = zs := by
  subst hk
  unfold kms_pick kms_lo kms_hi
  simp only [List.toList_toArray, List.length_append]
  rw [if_neg (by omega)]
  have e : min (Int.toNat (vs.length : Int)) (vs.length + zs.length) = vs.length := by omega
  rw [e, List.drop_left, List.take_of_length_le (by omega)]
theorem pick_init {vs zs : List Value} {k : Int} (hk : k = (vs.length : Int)) : kms_pick (vs ++ zs).toArray.toList none (some k) = vs := by
  subst hk
  unfold kms_pick kms_lo kms_hi
  simp only [List.toList_toArray, List.length_append]
  rw [if_neg (by omega)]
  have e : min (Int.toNat (vs.length : Int)) (vs.length + zs.length) = vs.length := by omega
  rw [e, List.drop_zero, Nat.sub_zero, List.take_left]
theorem TStk.cons2 {vs : List Value} {a b : AV} {st : List AV} (h : TStk vs (b :: a :: st)) : ∃ vs' v u, vs = vs' ++ [v, u] ∧ TStk vs' st ∧ TRel v a ∧ TRel u b := by
  obtain ⟨v1, x1, rfl, h1, r1⟩ := h.cons
  obtain ⟨v2, x2, rfl, h2, r2⟩ := h1.cons
  exact ⟨v2, x2, x1, by simp, h2, r2, r1⟩
theorem TStk.cons3 {vs : List Value} {a b c : AV} {st : List AV} (h : TStk vs (c :: b :: a :: st)) : ∃ vs' v u z, vs = vs' ++ [v, u, z] ∧ TStk vs' st ∧ TRel v a ∧ TRel u b ∧ TRel z c := by
  obtain ⟨v1, x1, rfl, h1, r1⟩ := h.cons
  obtain ⟨v2, x3, x2, rfl, h2, r2, r3⟩ := h1.cons2
  exact ⟨v2, x3, x2, x1, by simp, h2, r2, r3, r1⟩
theorem told_end {g h' : Heap} {L D ls : Addr} {κ i n : Nat} {x : Nat × Nat} {steps : List (Nat × Nat)} {kv v : Value} {b : Bool} {led r0 own : List (Addr × Obj)} {ws : List Value} {ab0 ab : List AV} {a' : AV} {m'' : Str → Option Value} {s₁ : Shared} {tk : Nat}
    (hoff : ∀ p ∈ own, ∀ q ∈ r0, p.1 ≠ q.1) (F9 : Fr g L h' m'') (N9 : News g L h' led)
    (e1 : m'' (Str.ofString "stack") = some (.ref D)) (e2 : m'' (Str.ofString "kind") = some kv) (e4 : m'' (Str.ofString "strict") = some (.bool b)) (e3 : m'' (Str.ofString "steps") = some (.ref ls))
    (hD : (D, (listOf (ws.toArray.push v) n : Obj)) ∈ led) (hsub : ∀ p ∈ r0 ++ own, p ∈ led) (hne : ∀ p ∈ r0 ++ own, p.1 ≠ D) (hb : b = decide (κ = 3))
    (hst : TStk ws ab) (hv : TRel v a') (hsa : small a') (hsm : ∀ x ∈ ab, small x) (hs : absStep κ x ab0 = some (a' :: ab)) (h1 : absRun κ steps 0 [] = absRun κ (x :: steps.drop (i + 1)) i ab0) (h2 : hrun (steps.drop (i + 1)) (ab.length + 1) = some 1) (h3 : ab.length ≤ i) :
    InvEndG g L (JT κ steps kv ls r0 (i + 1)) own s₁ { s₁ with heap := h', toks := tk } := by
  refine InvEndG.intro (nx := (D, (listOf (List.toArray (ws ++ [v])) n : Obj)) :: r0) F9 N9 ⟨D, ws ++ [v], n, a' :: ab, e1, e2, ⟨b, e4, hb⟩, e3, rfl, fun p hp => hne p (List.mem_append_left _ hp), .snoc hst hv, ?_, ?_, h2, by simp only [List.length_cons]; omega⟩ ?_ ?_ ?_
  · intro y hy
    rcases List.mem_cons.mp hy with rfl | hy
    · exact hsa
    · exact hsm y hy
  · rw [h1]
    exact absRun_next hs
  · intro p hp c hc e
    obtain ⟨z, hz, rfl⟩ := List.mem_map.mp hc
    rcases List.mem_cons.mp hz with rfl | hz
    · exact hne p (List.mem_append_right _ hp) e
    · exact hoff p hp z hz e
  · intro p hp
    rcases List.mem_cons.mp hp with rfl | hp
    · rw [← List.push_toArray]
      exact hD
    · exact hsub p (List.mem_append_left _ hp)
  · exact fun p hp => hsub p (List.mem_append_right _ hp)
theorem off_r0 {own r0 : List (Addr × Obj)} {q : Addr × Obj} (hoff : OwnOff own ((q :: r0).map (·.1))) : ∀ p ∈ own, ∀ q ∈ r0, p.1 ≠ q.1 := fun p hp z hz => hoff p hp _ (List.mem_map.mpr ⟨z, .tail _ hz, rfl⟩)
theorem lt_ne {D : Addr} {l : List (Addr × Obj)} (h : AllLt D l) : ∀ p ∈ l, p.1 ≠ D := fun p hp => Nat.ne_of_lt (allLt_to h p hp)
theorem one_n0 {κ w : Nat} {j : Int} (h : w = 0) : oneOf κ w (.num j) = some (.num ((-j).fmod 1000)) := by subst h; rfl
theorem one_n1 {κ w : Nat} {j : Int} (h : w = 1) (hj : j = 0) : oneOf κ w (.num j) = some (.num 1) := by subst h; subst hj; rfl
theorem one_n1' {κ w : Nat} {j : Int} (h : w = 1) (hj : j ≠ 0) : oneOf κ w (.num j) = some (.num 0) := by subst h; simp [oneOf, hj]
theorem one_n2 {κ w : Nat} {j : Int} (h : w = 2) : oneOf κ w (.num j) = some (.num (lawNum (Str.ofString (toString j)))) := by subst h; rfl
theorem one_n3 {κ w : Nat} {j : Int} (h0 : w ≠ 0) (h1 : w ≠ 1) (h2 : w ≠ 2) : oneOf κ w (.num j) = some (.num j) := by
  rcases w with _ | _ | _ | w
  · exact absurd rfl h0
  · exact absurd rfl h1
  · exact absurd rfl h2
  · rfl
theorem step_one {κ w : Nat} {a r : AV} {st : List AV} (h : oneOf κ w a = some r) : absStep κ (1, w) (a :: st) = some (r :: st) := by
  show (oneOf κ w a).map _ = _
  rw [h]
  rfl
theorem step_two {κ w : Nat} {a b : AV} {r : Int} {st : List AV} (h : twoOf κ w a b = some r) : absStep κ (2, w) (b :: a :: st) = some (.num r :: st) := by
  show (twoOf κ w a b).map _ = _
  rw [h]
  rfl
theorem fail_one {κ w i : Nat} {a : AV} {st : List AV} {steps rest : List (Nat × Nat)} (h1 : absRun κ steps 0 [] = absRun κ ((1, w) :: rest) i (a :: st)) (h : oneOf κ w a = none) : ((("fails" : Str), (i : Int)) : Str × Int) = outOf (absRun κ steps 0 []) := by
  rw [h1, absRun_fail (by show (oneOf κ w a).map _ = none; rw [h]; rfl)]
  rfl
theorem fail_two {κ w i : Nat} {a b : AV} {st : List AV} {steps rest : List (Nat × Nat)} (h1 : absRun κ steps 0 [] = absRun κ ((2, w) :: rest) i (b :: a :: st)) (h : twoOf κ w a b = none) : ((("fails" : Str), (i : Int)) : Str × Int) = outOf (absRun κ steps 0 []) := by
  rw [h1, absRun_fail (by show (twoOf κ w a b).map _ = none; rw [h]; rfl)]
  rfl
theorem one_l3 {κ w k : Nat} (h : κ = 3) : oneOf κ w (.lost k) = none := by
  subst h
  rcases w with _ | _ | _ | _ | _ | _ | _ | w <;> rfl
theorem one_lf {κ w k : Nat} (h : w = 0 ∨ w = 7) : oneOf κ w (.lost k) = none := by rcases h with rfl | rfl <;> rfl
theorem one_l1 {κ w k : Nat} (h3 : κ ≠ 3) (h : w = 1) : oneOf κ w (.lost k) = some (.num 1) := by subst h; exact if_neg h3
theorem one_l2 {κ w k : Nat} (h3 : κ ≠ 3) (h : w = 2) : oneOf κ w (.lost k) = some (.num (lawNum (printed κ k))) := by subst h; exact if_neg h3
theorem one_l34 {κ w k : Nat} (h3 : κ ≠ 3) (h : w = 3 ∨ w = 4) : oneOf κ w (.lost k) = some (.num 0) := by rcases h with rfl | rfl <;> exact if_neg h3
theorem one_l56 {κ w k : Nat} (h1 : κ = 1) (h : w = 5 ∨ w = 6) : oneOf κ w (.lost k) = some (.lost k) := by subst h1; rcases h with rfl | rfl <;> rfl
theorem one_l56' {κ w k : Nat} (h1 : κ ≠ 1) (h : w = 5 ∨ w = 6) : oneOf κ w (.lost k) = none := by rcases h with rfl | rfl <;> exact if_neg h1
theorem two_at {A : Around} {w : World} {mean : ExcName → Option Value} {mg mb : Str → Option Value} {gd : Option (List Code)} {cn : Str} {nms : List (Str × NameKind)} {more : List (Str × Const)} {a : Addr} {ccd : Value} {outer : List Env} {A₀ : Around} {base h₀ : Heap} {L : Addr} {m : Str → Option Value} {news : List (Addr × Obj)} {s : Shared} {Q E : Value → Shared → Prop}
    (hA : A.handled = none ∧ A.depth ≤ 540 ∧ A.frames = some (envOf cn (SC nms more) L a ccd :: outer) ∧ A.guards = gd ∧ A.units ≤ 1080) (B : Below A₀ base outer h₀) (F : Fr h₀ L s.heap m) (X : (hd.heap_39 w.params).In h₀) (N : News h₀ L s.heap news) (T : Top hd.view_39 (looseW hd.view_39 LL) mean mg mb h₀) 
    (D : KtsDicts (outer.filterMap (·.frame)) h₀) {what : Nat} {wI : Int} {t0 t1 t2 : Tok} (hlt : what < 6) (hwI : wI = (what : Int)) {i j : Int} (hi : -1000 < i ∧ i < 1000) (hj : -1000 < j ∧ j < 1000)
    (hQ : ∀ r, (∀ κ, twoOf κ what (.num i) (.num j) = some r) → ∀ h' tk t, Fr h₀ L h' m → News h₀ L h' news → Q (.int r t) { s with heap := h', toks := tk }) :
    wpAny (model PW w) A (PySem.call (.ref 301) [.int wI t0, .int i t1, .int j t2]) Q E s := by
  obtain ⟨c1, c2, c3, c4, c5⟩ := hA
  exact wpAny_le (two_ii_told (κ := 0) B F X N T D (by omega) hi hj fun r hr => hQ r fun κ => hr) c1 (by show A.depth ≤ 540; omega) c3 c4 (by show A.units ≤ 2 * 540; omega)
def lostB : AV → Bool
  | .num _ => false
  | .lost _ => true
theorem isStr {w : World} {A : Around} {s : Shared} {Q E : Value → Shared → Prop} {v : Value} {a : AV} (h : TRel v a) (hQ : ∀ tk, Q (.bool (lostB a)) { s with toks := tk }) : wpAny (model PW w) A (PySem.call (.builtin "isinstance") [v, .type "str"]) Q E s := by
  cases h with
  | num =>
    k_steps
    exact hQ _
  | lost =>
    k_steps
    exact hQ _
theorem in_pair {prog : Program} {w : World} {A : Around} {s : Shared} {Q E : Value → Shared → Prop} {t : Addr} {a b k : Int} {ta tb tk : Tok} (ht : IsTup s.heap t #[.int a ta, .int b tb]) (hab : a ≤ b) (h1 : (k = a ∨ k = b) → a ≤ k → k ≤ b → Q (.bool true) s) (h2 : k ≠ a → k ≠ b → Q (.bool false) s) :
    wpAny (model prog w) A (compareOp .In (.int k tk) (.ref t)) Q E s := by
  refine in_tuple_ints ht (.cons _ _ (.cons _ _ .nil)) ?_
  by_cases h : k = a ∨ k = b
  · have e : ([a, b].any (· == k)) = true := by simp only [List.any_cons, List.any_nil, Bool.or_false, Bool.or_eq_true, beq_iff_eq]; rcases h with h | h <;> simp [h]
    rw [e]
    exact h1 h (by omega) (by omega)
  · have e : ([a, b].any (· == k)) = false := by
      rw [Bool.eq_false_iff]
      intro q
      refine h ?_
      simp only [List.any_cons, List.any_nil, Bool.or_false, Bool.or_eq_true, beq_iff_eq] at q
      rcases q with q | q
      · exact .inl q.symm
      · exact .inr q.symm
    rw [e]
    exact h2 (fun q => h (.inl q)) (fun q => h (.inr q))
theorem printed_no {κ k : Nat} (h : κ ≠ 2) : printed κ k = "" := if_neg h
theorem two_l3 {κ w : Nat} {a b : AV} (h : κ = 3) (hl : (lostB a || lostB b) = true) : twoOf κ w a b = none := by
  cases a <;> cases b <;> first | exact if_pos (.inl h) | (exfalso; revert hl; simp [lostB]; done)
theorem two_lt {κ w : Nat} {a b : AV} (h : w < 4) (hl : (lostB a || lostB b) = true) : twoOf κ w a b = none := by
  cases a <;> cases b <;> first | exact if_pos (.inr h) | (exfalso; revert hl; simp [lostB]; done)
theorem two_ll4 {κ w j k : Nat} (h3 : κ ≠ 3) (h : w = 4) : twoOf κ w (.lost j) (.lost k) = some 1 := by
  subst h
  show (if κ = 3 ∨ 4 < 4 then none else some (if 4 = 4 then 1 else 0)) = _
  rw [if_neg (by omega)]
  rfl
theorem two_ll5 {κ w j k : Nat} (h3 : κ ≠ 3) (h : ¬ w < 4) (h4 : w ≠ 4) : twoOf κ w (.lost j) (.lost k) = some 0 := by
  show (if κ = 3 ∨ w < 4 then none else some (if w = 4 then 1 else 0)) = _
  rw [if_neg (by omega), if_neg h4]
theorem two_x4 {κ w : Nat} {a b : AV} (h3 : κ ≠ 3) (h : w = 4) (hl : (lostB a != lostB b) = true) : twoOf κ w a b = some 0 := by
  subst h
  cases a <;> cases b <;> first | (exfalso; revert hl; simp [lostB]; done) | (show (if κ = 3 ∨ 4 < 4 then none else some (if 4 = 4 then 0 else 1)) = _; rw [if_neg (by omega)]; rfl)
theorem two_x5 {κ w : Nat} {a b : AV} (h3 : κ ≠ 3) (h : ¬ w < 4) (h4 : w ≠ 4) (hl : (lostB a != lostB b) = true) : twoOf κ w a b = some 1 := by
  cases a <;> cases b <;> first | (exfalso; revert hl; simp [lostB]; done) | (show (if κ = 3 ∨ w < 4 then none else some (if w = 4 then 0 else 1)) = _; rw [if_neg (by omega), if_neg h4])
theorem eq4a {b : Bool} {w : Nat} (hb : b = false) (q : (b == ((w : Int) == 4)) = true) : w ≠ 4 := by
  rintro rfl
  subst hb
  revert q
  decide
theorem eq4d {b : Bool} {w : Nat} (hb : b = true) (q : (b == ((w : Int) == 4)) = false) : w ≠ 4 := by
  rintro rfl
  subst hb
  revert q
  decide
theorem eq4b {b : Bool} {w : Nat} (hb : b = false) (q : (b == ((w : Int) == 4)) = false) : w = 4 := by
  subst hb
  cases e : ((w : Int) == 4)
  · rw [e] at q
    exact absurd q (by decide)
  · have := beq_iff_eq.mp e
    omega
theorem eq4c {b : Bool} {w : Nat} (hb : b = true) (q : (b == ((w : Int) == 4)) = true) : w = 4 := by
  subst hb
  cases e : ((w : Int) == 4)
  · rw [e] at q
    exact absurd q (by decide)
  · have := beq_iff_eq.mp e
    omega
theorem step_three {κ w : Nat} {a b c : AV} {st : List AV} {t : Bool} (h : truthOf κ c = some t) : absStep κ (3, w) (c :: b :: a :: st) = some ((if t then a else b) :: st) := by
  show (truthOf κ c).map _ = _
  rw [h]
  rfl
theorem fail_three {κ w i : Nat} {a b c : AV} {st : List AV} {steps rest : List (Nat × Nat)} (h1 : absRun κ steps 0 [] = absRun κ ((3, w) :: rest) i (c :: b :: a :: st)) (h : truthOf κ c = none) : ((("fails" : Str), (i : Int)) : Str × Int) = outOf (absRun κ steps 0 []) := by
  rw [h1, absRun_fail (by show (truthOf κ c).map _ = none; rw [h]; rfl)]
  rfl
theorem step_three_no {κ w : Nat} {a b c : AV} {st : List AV} (h : truthOf κ c = some false) : absStep κ (3, w) (c :: b :: a :: st) = some (b :: st) := step_three h
theorem step_three_yes {κ w : Nat} {a b c : AV} {st : List AV} (h : truthOf κ c = some true) : absStep κ (3, w) (c :: b :: a :: st) = some (a :: st) := step_three h
theorem truth_num0 {κ : Nat} {j : Int} (h : j = 0) : truthOf κ (.num j) = some false := by subst h; rfl
theorem truth_num1 {κ : Nat} {j : Int} (h : j ≠ 0) : truthOf κ (.num j) = some true := congrArg some (decide_eq_true h)
theorem truth_l3 {κ k : Nat} (h : κ = 3) : truthOf κ (.lost k) = none := if_pos h
theorem truth_l {κ k : Nat} (h : κ ≠ 3) : truthOf κ (.lost k) = some false := if_neg h
theorem k3_of {b : Bool} {κ : Nat} (hb : b = decide (κ = 3)) (h : b = true) : κ = 3 := of_decide_eq_true (hb.symm.trans h)
theorem k3_no {b : Bool} {κ : Nat} (hb : b = decide (κ = 3)) (h : b = false) : κ ≠ 3 := of_decide_eq_false (hb.symm.trans h)
theorem two_at2 {A : Around} {w : World} {mean : ExcName → Option Value} {mg mb : Str → Option Value} {gd : Option (List Code)} {cn : Str} {nms : List (Str × NameKind)} {more : List (Str × Const)} {a : Addr} {ccd : Value} {outer : List Env} {A₀ : Around} {base h₀ : Heap} {L : Addr} {m : Str → Option Value} {news : List (Addr × Obj)} {s : Shared} {Q E : Value → Shared → Prop}
    (hA : A.handled = none ∧ A.depth ≤ 540 ∧ A.frames = some (envOf cn (SC nms more) L a ccd :: outer) ∧ A.guards = gd ∧ A.units ≤ 1080) (B : Below A₀ base outer h₀) (F : Fr h₀ L s.heap m) (X : (hd.heap_39 w.params).In h₀) (N : News h₀ L s.heap news) (T : Top hd.view_39 (looseW hd.view_39 LL) mean mg mb h₀) 
    (D : KtsDicts (outer.filterMap (·.frame)) h₀) {what : Nat} {wI : Int} {t0 : Tok} (hlt : what < 6) (hwI : wI = (what : Int)) {v1 v2 : Value} {a1 a2 : AV} (r1 : TRel v1 a1) (r2 : TRel v2 a2) (b1 : small a1) (b2 : small a2) (hl : (lostB a1 || lostB a2) = false)
    (hQ : ∀ r, (∀ κ, twoOf κ what a1 a2 = some r) → ∀ h' tk t, Fr h₀ L h' m → News h₀ L h' news → Q (.int r t) { s with heap := h', toks := tk }) :
    wpAny (model PW w) A (PySem.call (.ref 301) [.int wI t0, v1, v2]) Q E s := by
  cases r1 with
  | num => cases r2 with
    | num => exact two_at hA B F X N T D hlt hwI b1 b2 hQ
    | lost => exact absurd hl (by simp [lostB])
  | lost => exact absurd hl (by simp [lostB])
theorem two_res1 {κ w : Nat} {a b : AV} (h3 : κ ≠ 3) (hl : (lostB a || lostB b) = true) (hw : ¬ w < 4) (q : ((lostB a && lostB b) == ((w : Int) == 4)) = true) : twoOf κ w a b = some 1 := by
  cases a with
  | num i => cases b with
    | num j => exact absurd hl (by simp [lostB])
    | lost k => exact two_x5 h3 hw (eq4a (b := lostB (.num i) && lostB (.lost k)) rfl q) rfl
  | lost k => cases b with
    | num j => exact two_x5 h3 hw (eq4a (b := lostB (.lost k) && lostB (.num j)) rfl q) rfl
    | lost j => exact two_ll4 h3 (eq4c (b := lostB (.lost k) && lostB (.lost j)) rfl q)
theorem two_res0 {κ w : Nat} {a b : AV} (h3 : κ ≠ 3) (hl : (lostB a || lostB b) = true) (hw : ¬ w < 4) (q : ((lostB a && lostB b) == ((w : Int) == 4)) = false) : twoOf κ w a b = some 0 := by
  cases a with
  | num i => cases b with
    | num j => exact absurd hl (by simp [lostB])
    | lost k => exact two_x4 h3 (eq4b (b := lostB (.num i) && lostB (.lost k)) rfl q) rfl
  | lost k => cases b with
    | num j => exact two_x4 h3 (eq4b (b := lostB (.lost k) && lostB (.num j)) rfl q) rfl
    | lost j => exact two_ll5 h3 hw (eq4d (b := lostB (.lost k) && lostB (.lost j)) rfl q)
theorem small_num {i : Int} (h : small (.num i)) : -1000 < i ∧ i < 1000 := h
theorem one_l2n {κ w k : Nat} (h3 : κ ≠ 3) (h : w = 2) (hk : κ ≠ 2) : oneOf κ w (.lost k) = some (.num (lawNum "")) := by rw [one_l2 h3 h, printed_no hk]
theorem one_l2d {κ w k : Nat} (h : w = 2) (hk : κ = 2) : oneOf κ w (.lost k) = some (.num (lawNum (printed 2 k))) := by subst hk; exact one_l2 (by decide) h
theorem ne2_of_5 {k : Int} (h : 5 ≤ k) : k ≠ 2 := by omega
theorem ne1_of_5 {k : Int} (h : 5 ≤ k) : k ≠ 1 := by omega
section
variable {w : World} {mean : ExcName → Option Value} {mg mb : Str → Option Value} {gd : Option (List Code)} {cn : Str} {nms : List (Str × NameKind)} {more : List (Str × Const)} {a : Addr} {ccd : Value} {A₀ : Around} {base h₀ : Heap} {L : Addr} {m : Str → Option Value} {news : List (Addr × Obj)} {s : Shared} {Q E : Value → Shared → Prop}
local macro_rules | `(tactic| walk_at "exec For Name Call cons nil") => `(tactic| (k_here; (rename Fr _ _ _ _ => lF'); (with_unfolding_all refine' For_stop lF' ?k1 ?k2 ?_; (case k1 => exact rfl); (case k2 => exact rfl); k_whole)))
local macro_rules | `(tactic| walk_at "call builtin:len") => `(tactic| ((with_reducible show wpAny _ _ (PySem.call (Value.builtin "len") [Value.ref _]) _ _ _); k_dflt (refine' len_at ?yl ?ye ?yn ?_; (case yl => exact News.isList (by k_asm) (by k_mem)); (case ye => assumption); (case yn => omega)); k_whole))
local macro_rules | `(tactic| walk_at "subscriptTail Name") => `(tactic| ((with_reducible show wpAny _ _ (subscriptTail _ _ (Value.ref _) (Value.int _ _)) _ _ _); k_dflt (refine' item_litK ?y1 ?y2 ?y3 ?y4 ?_ ?y6; (case y1 => exact News.isList (by k_asm) (by k_mem)); (case y4 => assumption); (case y2 => omega); (case y3 => omega); (case y6 => with_unfolding_all rfl); k_whole)))
local macro_rules | `(tactic| walk_at "assign Tuple") => `(tactic| ((with_reducible show wpAny _ _ (assign (Expr.Tuple _ _ _) _ (Value.ref _)) _ _ _); k_dflt (refine' unpackN_ ?zF ?zN ?zT ?z1 ?z2 ?z3 ?_; (case zF => k_asm); (case zN => k_asm); (case zT => exact News.isTup (by k_asm) (List.Mem.tail _ (by assumption))); (case z1 => exact rfl); (case z2 => exact rfl); (case z3 => exact rfl)); intro h' F' N'; (try k_sweep)))
local macro_rules | `(tactic| walk_at "subscriptTail Name Slice ref ref") => `(tactic| (k_here; (with_reducible show wpAny _ _ (subscriptTail _ (PySem.Expr.Slice _ _ none _) (Value.ref _) (Value.ref _)) _ _ _); k_dflt (refine' kms_slice_lit ?zF ?zN ?zl ?zp ?zq ?ze ?_ ?zs ?zt ?zz; (case zF => k_asm); (case zN => k_asm); (case zl => exact News.isList (by k_asm) (by k_mem)); (case zp => kmk_part); (case zq => kmk_part); (case ze => first | exact pick_last (by omega) | exact pick_init (by omega)); (case zs => with_unfolding_all rfl); (case zt => kmk_pure); (case zz => assumption)); intro D' h' F' N' l1; (try k_lt l1); (try k_sweep)))
local macro_rules | `(tactic| walk_at "CompEnd") => `(tactic| (refine LCg.CompEnd.intro (by assumption) (by assumption) _ (fun p hp => hp) (by simp only [LCg.Off3, and_true]; assumption) (by lcg_src) ?_))
local macro_rules | `(tactic| walk_at "subscriptTail Name Constant ref int") => `(tactic| ((with_reducible show wpAny _ _ (subscriptTail _ _ (Value.ref _) (Value.int _ _)) _ _ _); k_dflt (refine' item_litK ?y1 ?y2 ?y3 ?y4 ?_ ?y6; (case y1 => exact News.isList (by k_asm) (by k_mem)); (case y4 => exact rfl); (case y2 => decide); (case y3 => decide); (case y6 => with_unfolding_all rfl); k_whole)))
local macro_rules | `(tactic| walk_at "call ref") => `(tactic| ((with_reducible show wpAny _ _ (PySem.call (Value.ref 287) _) _ _ _); k_dflt (refine' number_at ⟨rfl, Nat.le_of_ble_eq_true rfl, rfl, rfl, Nat.le_of_ble_eq_true rfl⟩ ?b ?f ?x ?n ?t ?l ?_; (case b => assumption); (case f => k_asm); (case x => assumption); (case n => k_asm); (case t => assumption); (case l => first | exact len_int (by assumption) | exact printed_len _ _ | decide)); intro h' tk' t' F' N'; k_whole))
local macro_rules | `(tactic| walk_at "call ref") => `(tactic| ((with_reducible show wpAny _ _ (PySem.call (Value.ref 301) _) _ _ _); k_dflt (refine' two_at2 ⟨rfl, Nat.le_of_ble_eq_true rfl, rfl, rfl, Nat.le_of_ble_eq_true rfl⟩ ?b ?f ?x ?n ?t ?d ?y1 rfl ?r1 ?r2 ?s1 ?s2 ?l ?_; (case b => assumption); (case f => k_asm); (case x => assumption); (case n => k_asm); (case t => assumption); (case d => assumption); (case y1 => assumption); (case r1 => assumption); (case r2 => assumption); (case s1 => assumption); (case s2 => assumption); (case l => assumption)); intro r' hr' h' tk' t' F' N'; k_whole))
local macro_rules | `(tactic| walk_at "call builtin:isinstance") => `(tactic| ((with_reducible show wpAny _ _ (PySem.call (Value.builtin "isinstance") [_, Value.type "str"]) _ _ _); k_dflt (refine' isStr ?u ?_; (case u => assumption)); intro tk'; k_whole))
local macro_rules | `(tactic| walk_at "callWith") => `(tactic| ((with_reducible show wpAny _ _ (callWith _ (Value.builtin "list.append") [_] _ _) _ _ _); refine callWith_method1 ?_))
local macro_rules | `(tactic| walk_at "call builtin:list.append") => `(tactic| (k_here; (with_reducible show wpAny _ _ (call (Value.builtin _) [Value.ref _, _]) _ _ _); k_dflt (refine' append_K ?zF ?zN ?zU ?_ ?zz; (case zF => k_asm); (case zN => k_asm); (case zU => first | exact Upd.head (by assumption) | exact Upd.tail (by k_ne) (Upd.head (by assumption))); (case zz => assumption)); intro h' F' N'; (try k_sweep)))
local macro_rules | `(tactic| walk_at "ite") => `(tactic| (focus ((with_reducible show (if lostB _ = true then _ else _)); k_dflt (first
  | (refine ite_pos (rfl : lostB (AV.lost _) = true) ?_)
  | (refine ite_neg (fun h => Bool.noConfusion h : ¬ lostB (AV.num _) = true) ?_)
  | ((rename TRel _ _ => hvx); cases hvx <;> (first | refine ite_pos (rfl : lostB (AV.lost _) = true) ?_ | (refine ite_neg (fun h => Bool.noConfusion h : ¬ lostB (AV.num _) = true) ?_; (have sj := small_num (by assumption)))))))))
local macro_rules | `(tactic| walk_at "compareOp In int ref") => `(tactic| (focus ((with_reducible show wpAny _ _ (compareOp CmpOp.In (Value.int _ _) (Value.ref _)) _ _ _); k_dflt (refine' in_pair ?t ?l ?_ ?_; (case t => exact News.isTup (by k_asm) (by k_mem)); (case l => decide)); (all_goals (first | (intro q q1 q2; (try (exfalso; omega)); (try (have n2 := ne2_of_5 q1; have n1 := ne1_of_5 q1))) | (intro q q1; (try (exfalso; omega))))); (all_goals k_whole))))
local macro_rules | `(tactic| k_mem) => `(tactic| first | assumption | exact List.Mem.tail _ (by assumption))
set_option maxRecDepth 100000 in
set_option maxHeartbeats 4000000 in
theorem told_call {κ : Nat} (hκ : κ < 4) (B : Below A₀ base [] h₀) (F : Fr h₀ L s.heap m) (X : (hd.heap_39 w.params).In h₀) (N : News h₀ L s.heap news) (T : Top hd.view_39 (looseW hd.view_39 LL) mean mg mb h₀) 
    {ls n : Nat} {ts : List Value} {steps : List (Nat × Nat)} {kI : Int} {t0 : Tok} (hk : kI = (κ : Int)) (hl : (ls, listOf ts.toArray n) ∈ news) (ht : Tups news ts steps) (hr : hrun steps 0 = some 1) (h40 : steps.length ≤ 40)
    (hQ : ∀ (si : Str × Int) {h' tk x t1 t2 r}, Fr h₀ L h' m → News h₀ L h' ((x, tup2 (.str si.1 t1) (.int si.2 t2)) :: r) → (∀ p ∈ news, p ∈ r) → si = outOf (absRun κ steps 0 []) → Q (.ref x) { s with heap := h', toks := tk }) :
    wpAny (model PW w) (AT 500 gd (envOf cn (SC nms more) L a ccd) []) (PySem.call (.ref 327) [.int kI t0, .ref ls]) Q E s := by
  have hsz : ts.toArray.size = steps.length := by rw [List.size_toArray, ht.length]
  refine wpAny_call ?_
  kts_go
  k_steps
  rename IsRange _ _ _ _ _ _ _ _ => hrg
  rename Fr _ _ _ _ => F1
  rename News _ _ _ _ => N1
  rename ∀ p ∈ news, p.1 < _ => q1
  refine ⟨?_⟩
  refine range_inv (J := JT κ steps (.int kI t0) ls news) rfl hrg (by omega) F1 (fun p hp => N1 p (.tail _ hp)) ⟨_, [], 0, [], by rfl, by rfl, ⟨_, by rfl, by rw [hk]; exact decide_eq_decide.mpr (by omega)⟩, by rfl, rfl, fun p hp => Nat.ne_of_lt (q1 p hp), .nil, (by intro x h; cases h), rfl, hr, Nat.le_refl _⟩ ?turn ?done
  case turn =>
    clear F1 N1
    rintro i t m₁ nx h tk own hi hoff ⟨st, vs, k, ab, e1, e2, ⟨b, e4, hb⟩, e3, rfl, hap0, hst, hsm, hrun1, hr1, hle⟩ F₁ N₁
    have N₂ : News _ _ h ((st, listOf vs.toArray k) :: (news ++ own)) := N₁
    have F₂ := fr_known (fr_known (fr_known (fr_known F₁ (n := Str.ofString "stack") (by rw [if_neg (by decide)]; exact e1)) (n := Str.ofString "kind") (by rw [if_neg (by decide), if_neg (by decide)]; exact e2)) (n := Str.ofString "steps") (by rw [if_neg (by decide), if_neg (by decide), if_neg (by decide)]; exact e3)) (n := Str.ofString "strict") (by rw [if_neg (by decide), if_neg (by decide), if_neg (by decide), if_neg (by decide)]; exact e4)
    clear F₁ N₁ e1 e2 e3 e4
    obtain ⟨ta, k1, k2, g1, g2⟩ := ht.get i hi
    rw [drop_step hi] at hrun1 hr1
    obtain ⟨x, hx⟩ : ∃ x, x = steps[i] := ⟨_, rfl⟩
    rw [← hx] at hrun1 hr1 g2
    clear hx
    obtain ⟨h2, hs1, hr2⟩ := hrun_cons hr1
    have g1' : ts[((i : Nat) : Int).toNat]? = some (.ref ta) := by simpa using g1
    have hlm : (ls, (listOf ts.toArray n : Obj)) ∈ news ++ own := List.mem_append_left _ hl
    have htm := List.mem_append_left own g2
    have oo := off_r0 hoff
    have hap' : ∀ p ∈ news ++ own, p.1 ≠ st := by
      intro p hp
      rcases List.mem_append.mp hp with hp | hp
      · exact hap0 p hp
      · exact hoff p hp _ (.head _)
    cases stepOf hs1 with
    | s0 hw =>
      rename_i w1
      have hlv := hst.length
      have z2 : vs.toArray.size ≤ sizeLine := by rw [sizeLine_eq]; simp at hle ⊢; omega
      have htm1 : (ta, tup2 (.int 0 k1) (.int (w1 : Int) k2)) ∈ news ++ own := htm
      clear htm
      by_cases hw6 : 6 < w1
      · rcases (by omega : w1 = 7 ∨ w1 = 8 ∨ w1 = 9) with rfl | rfl | rfl
        all_goals k_steps
        all_goals (rename Fr _ _ _ _ => F9; rename News _ _ _ _ => N9)
        · exact told_end oo F9 N9 (by rfl) (by rfl) (by rfl) (by rfl) (by repeat (first | exact List.Mem.head _ | refine List.Mem.tail _ ?_)) (by intro p hp; repeat (first | exact hp | refine List.Mem.tail _ ?_)) hap' hb hst (TRel.lost (k := 0)) trivial hsm rfl hrun1 hr2 hle
        · exact told_end oo F9 N9 (by rfl) (by rfl) (by rfl) (by rfl) (by repeat (first | exact List.Mem.head _ | refine List.Mem.tail _ ?_)) (by intro p hp; repeat (first | exact hp | refine List.Mem.tail _ ?_)) hap' hb hst (TRel.lost (k := 1)) trivial hsm rfl hrun1 hr2 hle
        · exact told_end oo F9 N9 (by rfl) (by rfl) (by rfl) (by rfl) (by repeat (first | exact List.Mem.head _ | refine List.Mem.tail _ ?_)) (by intro p hp; repeat (first | exact hp | refine List.Mem.tail _ ?_)) hap' hb hst (TRel.lost (k := 2)) trivial hsm rfl hrun1 hr2 hle
      · k_steps
        rename Fr _ _ _ _ => F9
        rename News _ _ _ _ => N9
        exact told_end oo F9 N9 (by rfl) (by rfl) (by rfl) (by rfl) (by repeat (first | exact List.Mem.head _ | refine List.Mem.tail _ ?_)) (by intro p hp; repeat (first | exact hp | refine List.Mem.tail _ ?_)) hap' hb hst .num (by show -1000 < ((w1 : Int) - 3) ∧ ((w1 : Int) - 3) < 1000; omega) hsm (by show some (_ :: ab) = _; rw [if_neg hw6]) hrun1 hr2 hle
    | s1 hw =>
      rename_i w1 a1 ab'
      obtain ⟨vs', v1, rfl, hst', hv1⟩ := hst.cons
      have hlv := hst'.length
      have z1 : (vs' ++ [v1]).toArray.size = vs'.length + 1 := by simp
      have z2 : vs'.toArray.size ≤ sizeLine := by rw [sizeLine_eq]; simp at hle ⊢; omega
      have z3 : (vs' ++ [v1]).toArray.size ≤ sizeLine := by rw [sizeLine_eq]; simp at hle ⊢; omega
      have z4 : vs'.length ≤ 40 := by simp at hle; omega
      have htm1 : (ta, tup2 (.int 1 k1) (.int (w1 : Int) k2)) ∈ news ++ own := htm
      have sm1 := hsm _ (.head _)
      have hle' : ab'.length ≤ i := by simp at hle; omega
      clear htm hle
      k_steps
      · rename Fr _ _ _ _ => F9
        rename News _ _ _ _ => N9
        exact told_end oo F9 N9 (by rfl) (by rfl) (by rfl) (by rfl) (by repeat (first | exact List.Mem.head _ | refine List.Mem.tail _ ?_)) (by intro p hp; repeat (first | exact hp | refine List.Mem.tail _ ?_)) (lt_ne (And.right (And.right (by assumption)))) hb hst' .num (small_one (κ := κ) (w := w1) (one_n0 (by omega)) sm1) (fun x hx => hsm x (.tail _ hx)) (step_one (one_n0 (by omega))) hrun1 hr2 hle'
      · rename Fr _ _ _ _ => F9
        rename News _ _ _ _ => N9
        exact told_end oo F9 N9 (by rfl) (by rfl) (by rfl) (by rfl) (by repeat (first | exact List.Mem.head _ | refine List.Mem.tail _ ?_)) (by intro p hp; repeat (first | exact hp | refine List.Mem.tail _ ?_)) (lt_ne (And.right (And.right (by assumption)))) hb hst' .num (small_one (κ := κ) (w := w1) (one_n1 (by omega) (by assumption)) sm1) (fun x hx => hsm x (.tail _ hx)) (step_one (one_n1 (by omega) (by assumption))) hrun1 hr2 hle'
      · rename Fr _ _ _ _ => F9
        rename News _ _ _ _ => N9
        exact told_end oo F9 N9 (by rfl) (by rfl) (by rfl) (by rfl) (by repeat (first | exact List.Mem.head _ | refine List.Mem.tail _ ?_)) (by intro p hp; repeat (first | exact hp | refine List.Mem.tail _ ?_)) (lt_ne (And.right (And.right (by assumption)))) hb hst' .num (small_one (κ := κ) (w := w1) (one_n1' (by omega) (by assumption)) sm1) (fun x hx => hsm x (.tail _ hx)) (step_one (one_n1' (by omega) (by assumption))) hrun1 hr2 hle'
      · rename Fr _ _ _ _ => F9
        rename News _ _ _ _ => N9
        exact told_end oo F9 N9 (by rfl) (by rfl) (by rfl) (by rfl) (by repeat (first | exact List.Mem.head _ | refine List.Mem.tail _ ?_)) (by intro p hp; repeat (first | exact hp | refine List.Mem.tail _ ?_)) (lt_ne (And.right (And.right (by assumption)))) hb hst' .num (small_one (κ := κ) (w := w1) (one_n2 (by omega)) sm1) (fun x hx => hsm x (.tail _ hx)) (step_one (one_n2 (by omega))) hrun1 hr2 hle'
      · rename Fr _ _ _ _ => F9
        rename News _ _ _ _ => N9
        exact told_end oo F9 N9 (by rfl) (by rfl) (by rfl) (by rfl) (by repeat (first | exact List.Mem.head _ | refine List.Mem.tail _ ?_)) (by intro p hp; repeat (first | exact hp | refine List.Mem.tail _ ?_)) (lt_ne (And.right (And.right (by assumption)))) hb hst' .num (small_one (κ := κ) (w := w1) (one_n3 (by omega) (by omega) (by omega)) sm1) (fun x hx => hsm x (.tail _ hx)) (step_one (one_n3 (by omega) (by omega) (by omega))) hrun1 hr2 hle'
      · rename Fr h₀ _ _ _ => F9
        rename News h₀ _ _ _ => N9
        exact hQ ("fails", (i : Int)) F9 N9 (by intro p hp; repeat (first | exact List.mem_append_left _ hp | refine List.Mem.tail _ ?_)) (fail_one hrun1 (one_l3 (k3_of hb (by assumption))))
      · rename Fr h₀ _ _ _ => F9
        rename News h₀ _ _ _ => N9
        exact hQ ("fails", (i : Int)) F9 N9 (by intro p hp; repeat (first | exact List.mem_append_left _ hp | refine List.Mem.tail _ ?_)) (fail_one hrun1 (one_lf (by omega)))
      · rename Fr h₀ _ _ _ => F9
        rename News h₀ _ _ _ => N9
        exact hQ ("fails", (i : Int)) F9 N9 (by intro p hp; repeat (first | exact List.mem_append_left _ hp | refine List.Mem.tail _ ?_)) (fail_one hrun1 (one_l56' (by omega) (by omega)))
      · exfalso; omega
      · exfalso; omega
      · rename Fr _ _ _ _ => F9
        rename News _ _ _ _ => N9
        exact told_end oo F9 N9 (by rfl) (by rfl) (by rfl) (by rfl) (by repeat (first | exact List.Mem.head _ | refine List.Mem.tail _ ?_)) (by intro p hp; repeat (first | exact hp | refine List.Mem.tail _ ?_)) (lt_ne (And.right (And.right (by assumption)))) hb hst' TRel.lost trivial (fun x hx => hsm x (.tail _ hx)) (step_one (one_l56 (by omega) (by omega))) hrun1 hr2 hle'
      · rename Fr _ _ _ _ => F9
        rename News _ _ _ _ => N9
        exact told_end oo F9 N9 (by rfl) (by rfl) (by rfl) (by rfl) (by repeat (first | exact List.Mem.head _ | refine List.Mem.tail _ ?_)) (by intro p hp; repeat (first | exact hp | refine List.Mem.tail _ ?_)) (lt_ne (And.right (And.right (by assumption)))) hb hst' .num (small_one (κ := κ) (w := w1) (one_l2d (by omega) (by omega)) sm1) (fun x hx => hsm x (.tail _ hx)) (step_one (one_l2d (by omega) (by omega))) hrun1 hr2 hle'
      · rename Fr _ _ _ _ => F9
        rename News _ _ _ _ => N9
        exact told_end oo F9 N9 (by rfl) (by rfl) (by rfl) (by rfl) (by repeat (first | exact List.Mem.head _ | refine List.Mem.tail _ ?_)) (by intro p hp; repeat (first | exact hp | refine List.Mem.tail _ ?_)) (lt_ne (And.right (And.right (by assumption)))) hb hst' .num (small_one (κ := κ) (w := w1) (one_l2n (k3_no hb (by assumption)) (by omega) (by omega)) sm1) (fun x hx => hsm x (.tail _ hx)) (step_one (one_l2n (k3_no hb (by assumption)) (by omega) (by omega))) hrun1 hr2 hle'
      · rename Fr _ _ _ _ => F9
        rename News _ _ _ _ => N9
        exact told_end oo F9 N9 (by rfl) (by rfl) (by rfl) (by rfl) (by repeat (first | exact List.Mem.head _ | refine List.Mem.tail _ ?_)) (by intro p hp; repeat (first | exact hp | refine List.Mem.tail _ ?_)) (lt_ne (And.right (And.right (by assumption)))) hb hst' .num (small_one (κ := κ) (w := w1) (one_l1 (k3_no hb (by assumption)) (by omega)) sm1) (fun x hx => hsm x (.tail _ hx)) (step_one (one_l1 (k3_no hb (by assumption)) (by omega))) hrun1 hr2 hle'
      · rename Fr _ _ _ _ => F9
        rename News _ _ _ _ => N9
        exact told_end oo F9 N9 (by rfl) (by rfl) (by rfl) (by rfl) (by repeat (first | exact List.Mem.head _ | refine List.Mem.tail _ ?_)) (by intro p hp; repeat (first | exact hp | refine List.Mem.tail _ ?_)) (lt_ne (And.right (And.right (by assumption)))) hb hst' .num (small_one (κ := κ) (w := w1) (one_l34 (k3_no hb (by assumption)) (by omega)) sm1) (fun x hx => hsm x (.tail _ hx)) (step_one (one_l34 (k3_no hb (by assumption)) (by omega))) hrun1 hr2 hle'
    | s2 hw =>
      rename_i w1 b1 a1 ab'
      obtain ⟨vs', v1, v2, rfl, hst', hv1, hv2⟩ := hst.cons2
      have hlv := hst'.length
      have z1 : (vs' ++ [v1, v2]).toArray.size = vs'.length + 2 := by simp
      have z2 : vs'.toArray.size ≤ sizeLine := by rw [sizeLine_eq]; simp at hle ⊢; omega
      have z3 : (vs' ++ [v1, v2]).toArray.size ≤ sizeLine := by rw [sizeLine_eq]; simp at hle ⊢; omega
      have z4 : vs'.length ≤ 40 := by simp at hle; omega
      have htm1 : (ta, tup2 (.int 2 k1) (.int (w1 : Int) k2)) ∈ news ++ own := htm
      have sm2 := hsm _ (.head _)
      have sm1 := hsm _ (.tail _ (.head _))
      have hle' : ab'.length ≤ i := by simp at hle; omega
      clear htm hle
      k_steps
      · rename Fr h₀ _ _ _ => F9
        rename News h₀ _ _ _ => N9
        exact hQ ("fails", (i : Int)) F9 N9 (by intro p hp; repeat (first | exact List.mem_append_left _ hp | refine List.Mem.tail _ ?_)) (fail_two hrun1 (two_l3 (k3_of hb (by assumption)) (by assumption)))
      · rename Fr h₀ _ _ _ => F9
        rename News h₀ _ _ _ => N9
        exact hQ ("fails", (i : Int)) F9 N9 (by intro p hp; repeat (first | exact List.mem_append_left _ hp | refine List.Mem.tail _ ?_)) (fail_two hrun1 (two_lt (by omega) (by assumption)))
      · rename Fr _ _ _ _ => F9
        rename News _ _ _ _ => N9
        have hr9 : twoOf κ w1 a1 b1 = some 1 := (two_res1 (k3_no hb (by assumption)) (by assumption) (by omega) (by assumption))
        exact told_end oo F9 N9 (by rfl) (by rfl) (by rfl) (by rfl) (by repeat (first | exact List.Mem.head _ | refine List.Mem.tail _ ?_)) (by intro p hp; repeat (first | exact hp | refine List.Mem.tail _ ?_)) (lt_ne (And.right (And.right (by assumption)))) hb hst' .num (small_two hr9) (fun x hx => hsm x (.tail _ (.tail _ hx))) (step_two hr9) hrun1 hr2 hle'
      · rename Fr _ _ _ _ => F9
        rename News _ _ _ _ => N9
        have hr9 : twoOf κ w1 a1 b1 = some 0 := (two_res0 (k3_no hb (by assumption)) (by assumption) (by omega) (by assumption))
        exact told_end oo F9 N9 (by rfl) (by rfl) (by rfl) (by rfl) (by repeat (first | exact List.Mem.head _ | refine List.Mem.tail _ ?_)) (by intro p hp; repeat (first | exact hp | refine List.Mem.tail _ ?_)) (lt_ne (And.right (And.right (by assumption)))) hb hst' .num (small_two hr9) (fun x hx => hsm x (.tail _ (.tail _ hx))) (step_two hr9) hrun1 hr2 hle'
      · rename Fr _ _ _ _ => F9
        rename News _ _ _ _ => N9
        rename ∀ κ, twoOf κ _ _ _ = some _ => hr9
        exact told_end oo F9 N9 (by rfl) (by rfl) (by rfl) (by rfl) (by repeat (first | exact List.Mem.head _ | refine List.Mem.tail _ ?_)) (by intro p hp; repeat (first | exact hp | refine List.Mem.tail _ ?_)) (lt_ne (And.right (And.right (by assumption)))) hb hst' .num (small_two (hr9 κ)) (fun x hx => hsm x (.tail _ (.tail _ hx))) (step_two (hr9 κ)) hrun1 hr2 hle'
    | s3 =>
      rename_i w1 c1 b1 a1 ab'
      obtain ⟨vs', v1, v2, v3, rfl, hst', hv1, hv2, hv3⟩ := hst.cons3
      have hlv := hst'.length
      have z1 : (vs' ++ [v1, v2, v3]).toArray.size = vs'.length + 3 := by simp
      have z2 : vs'.toArray.size ≤ sizeLine := by rw [sizeLine_eq]; simp at hle ⊢; omega
      have z3 : (vs' ++ [v1, v2, v3]).toArray.size ≤ sizeLine := by rw [sizeLine_eq]; simp at hle ⊢; omega
      have z4 : vs'.length ≤ 40 := by simp at hle; omega
      have htm1 : (ta, tup2 (.int 3 k1) (.int (w1 : Int) k2)) ∈ news ++ own := htm
      have sm3 := hsm _ (.head _)
      have sm2 := hsm _ (.tail _ (.head _))
      have sm1 := hsm _ (.tail _ (.tail _ (.head _)))
      have hle' : ab'.length ≤ i := by simp at hle; omega
      clear htm hle
      k_steps
      · rename Fr _ _ _ _ => F9
        rename News _ _ _ _ => N9
        exact told_end oo F9 N9 (by rfl) (by rfl) (by rfl) (by rfl) (by repeat (first | exact List.Mem.head _ | refine List.Mem.tail _ ?_)) (by intro p hp; repeat (first | exact hp | refine List.Mem.tail _ ?_)) (lt_ne (And.right (And.right (by assumption)))) hb hst' hv2 sm2 (fun x hx => hsm x (.tail _ (.tail _ (.tail _ hx)))) (step_three_no (truth_num0 (by assumption))) hrun1 hr2 hle'
      · rename Fr _ _ _ _ => F9
        rename News _ _ _ _ => N9
        exact told_end oo F9 N9 (by rfl) (by rfl) (by rfl) (by rfl) (by repeat (first | exact List.Mem.head _ | refine List.Mem.tail _ ?_)) (by intro p hp; repeat (first | exact hp | refine List.Mem.tail _ ?_)) (lt_ne (And.right (And.right (by assumption)))) hb hst' hv1 sm1 (fun x hx => hsm x (.tail _ (.tail _ (.tail _ hx)))) (step_three_yes (truth_num1 (by assumption))) hrun1 hr2 hle'
      · rename Fr h₀ _ _ _ => F9
        rename News h₀ _ _ _ => N9
        exact hQ ("fails", (i : Int)) F9 N9 (by intro p hp; repeat (first | exact List.mem_append_left _ hp | refine List.Mem.tail _ ?_)) (fail_three hrun1 (truth_l3 (k3_of hb (by assumption))))
      · rename Fr _ _ _ _ => F9
        rename News _ _ _ _ => N9
        exact told_end oo F9 N9 (by rfl) (by rfl) (by rfl) (by rfl) (by repeat (first | exact List.Mem.head _ | refine List.Mem.tail _ ?_)) (by intro p hp; repeat (first | exact hp | refine List.Mem.tail _ ?_)) (lt_ne (And.right (And.right (by assumption)))) hb hst' hv2 sm2 (fun x hx => hsm x (.tail _ (.tail _ (.tail _ hx)))) (step_three_no (truth_l (k3_no hb (by assumption)))) hrun1 hr2 hle'
  case done =>
    clear F1 N1
    rintro m₁ nx h tk ⟨st, vs, k, ab, e1, e2, ⟨b, e4, hb⟩, e3, rfl, hap0, hst, hsm, hrun1, hr1, hle⟩ F₁ N₁
    dsimp only
    have F₂ := fr_known F₁ (n := Str.ofString "stack") e1
    clear F₁ e1 e2 e3 e4
    rw [List.drop_length] at hrun1 hr1
    obtain ⟨a1, rfl⟩ : ∃ a1, ab = [a1] := List.length_eq_one_iff.mp (Option.some.inj hr1)
    obtain ⟨vs', v1, rfl, hst', hv1⟩ := hst.cons
    cases hst' with
    | nil =>
      cases hv1 with
      | num =>
        k_steps
        rename Fr h₀ _ _ _ => F9
        rename News h₀ _ _ _ => N9
        exact hQ ("ends", _) F9 N9 (fun p hp => .tail _ hp) (by rw [hrun1]; rfl)
      | lost =>
        k_steps
        rename Fr h₀ _ _ _ => F9
        rename News h₀ _ _ _ => N9
        exact hQ ("undefined", 0) F9 N9 (fun p hp => .tail _ hp) (by rw [hrun1]; rfl)
end
end Mine
end
section
theorem Mine.quiet_W2 : True := by
  w_top off
  trivial
open PySem PySem.W PySem.W.X PyProof.Rows PySem.Calls PyProof.V PySem.Spec
namespace Mine
theorem cells_ok {ys : List Value} {ns : List Int} (h : IntsAre ys ns) : (∀ n ∈ ns, 0 ≤ n ∧ n < 10000) → ∀ v ∈ ys, ∃ j t, v = .int j t ∧ 0 ≤ j ∧ j < 10000 := by
  induction h with
  | nil => intro _ v hv; cases hv
  | cons n t _ ih =>
    intro hn v hv
    rcases List.mem_cons.mp hv with rfl | hv
    · exact ⟨n, t, rfl, hn n (.head _)⟩
    · exact ih (fun m hm => hn m (.tail _ hm)) v hv
theorem mods_ok {l : List Int} : ∀ n ∈ l.map (fun k => k.fmod 10000), 0 ≤ n ∧ n < 10000 := by
  intro n hn
  obtain ⟨k, _, rfl⟩ := List.mem_map.mp hn
  exact fm (by decide)
section
variable {w : World} {mean : ExcName → Option Value} {mg mb : Str → Option Value} {gd : Option (List Code)} {cn : Str} {nms : List (Str × NameKind)} {more : List (Str × Const)} {a : Addr} {ccd : Value} {A₀ : Around} {base h₀ : Heap} {L : Addr} {m : Str → Option Value} {news : List (Addr × Obj)} {s : Shared} {Q E : Value → Shared → Prop} {A : Around}
theorem plan_at {outer : List Env} (hA : A.handled = none ∧ A.depth ≤ 500 ∧ A.frames = some (envOf cn (SC nms more) L a ccd :: outer) ∧ A.guards = gd ∧ A.units ≤ 1000)
    (B : Below A₀ base outer h₀) (F : Fr h₀ L s.heap m) (X : (hd.heap_39 w.params).In h₀) (N : News h₀ L s.heap news) (T : Top hd.view_39 (looseW hd.view_39 LL) mean mg mb h₀) 
    {c n : Nat} {vs : List Value} (hc : (c, listOf vs.toArray n) ∈ news) (hv : ∀ v ∈ vs, ∃ j t, v = .int j t ∧ 0 ≤ j ∧ j < 10000) (h3 : 3 ≤ vs.length) (h19 : vs.length ≤ 19)
    (hQ : ∀ h' tk ls ts k r steps c0 t0, Fr h₀ L h' m → News h₀ L h' ((ls, (listOf (List.toArray ts) k : Obj)) :: r) → (c, (listOf vs.toArray n : Obj)) ∈ r → vs[(0 : Int).toNat]? = some (.int c0 t0) → Tups ((ls, (listOf (List.toArray ts) k : Obj)) :: r) ts steps → hrun steps 0 = some 1 → steps.length ≤ 40 → Q (.ref ls) { s with heap := h', toks := tk }) :
    wpAny (model PW w) A (PySem.call (.ref 294) [.ref c]) Q E s := by
  obtain ⟨a1, a2, a3, a4, a5⟩ := hA
  obtain ⟨c0, t0, hx0⟩ := plan_first hv h3
  refine wpAny_le (plan_call B F X N T hc hv h3 h19 (by rw [List.size_toArray, sizeLine_eq]; omega) fun h' tk ls ts k r r0 steps F' N' hap hin hts hr hl => ?_) a1 (by show A.depth ≤ 560; omega) a3 a4 (by show A.units ≤ 2 * 560; omega)
  exact hQ h' tk ls ts k (r ++ r0) steps c0 t0 F' N' (List.mem_append_right _ (hin _ hc)) hx0 (hts.mono fun p hp => .tail _ (List.mem_append_left _ hp)) hr hl
theorem done_at (hA : A.handled = none ∧ A.depth ≤ 500 ∧ A.frames = some [envOf cn (SC nms more) L a ccd] ∧ A.guards = gd ∧ A.units ≤ 1000) (B : Below A₀ base [] h₀) (F : Fr h₀ L s.heap m) (X : (hd.heap_39 w.params).In h₀) (N : News h₀ L s.heap news) (T : Top hd.view_39 (looseW hd.view_39 LL) mean mg mb h₀) 
    (XB : (hd.heap_39 w.params).In base) (TB : Top hd.view_39 (looseW hd.view_39 LL) mean mg mb base)
    {ls n : Nat} {ts : List Value} {steps : List (Nat × Nat)} {kI : Int} {t0 : Tok} (k0 : 0 ≤ kI) (k4 : kI < 4) {c : Addr} {co : Obj} (hl : (ls, listOf ts.toArray n) ∈ news) (ht : Tups news ts steps) (hr : hrun steps 0 = some 1) (h40 : steps.length ≤ 40) (hc : (c, co) ∈ news)
    (hQ : ∀ (si : Str × Int) {h' tk x t1 t2 r}, Fr h₀ L h' m → News h₀ L h' ((x, tup2 (.str si.1 t1) (.int si.2 t2)) :: r) → (c, co) ∈ r → (ls, (listOf ts.toArray n : Obj)) ∈ r → Tups ((x, tup2 (.str si.1 t1) (.int si.2 t2)) :: r) ts steps → si = outOf (absRun kI.toNat steps 0 []) → Q (.ref x) { s with heap := h', toks := tk }) :
    wpAny (model PW w) A (PySem.call (.ref 322) [.int kI t0, .ref ls]) Q E s := by
  obtain ⟨a1, a2, a3, a4, a5⟩ := hA
  refine wpAny_le (done_call (κ := kI.toNat) (by omega) B F X N T XB TB (by omega) hl ht hr h40 fun si {h' tk x t1 t2 r} F' N' hin e => ?_) a1 (by show A.depth ≤ 500; omega) a3 a4 (by show A.units ≤ 2 * 500; omega)
  exact hQ si F' N' (hin _ hc) (hin _ hl) (ht.mono fun p hp => .tail _ (hin p hp)) e
theorem told_at (hA : A.handled = none ∧ A.depth ≤ 500 ∧ A.frames = some [envOf cn (SC nms more) L a ccd] ∧ A.guards = gd ∧ A.units ≤ 1000) (B : Below A₀ base [] h₀) (F : Fr h₀ L s.heap m) (X : (hd.heap_39 w.params).In h₀) (N : News h₀ L s.heap news) (T : Top hd.view_39 (looseW hd.view_39 LL) mean mg mb h₀) 
    {ls n : Nat} {ts : List Value} {steps : List (Nat × Nat)} {kI : Int} {t0 : Tok} (k0 : 0 ≤ kI) (k4 : kI < 4) {c : Addr} {co : Obj} (hl : (ls, listOf ts.toArray n) ∈ news) (ht : Tups news ts steps) (hr : hrun steps 0 = some 1) (h40 : steps.length ≤ 40) (hc : (c, co) ∈ news)
    (hQ : ∀ (si : Str × Int) {h' tk x t1 t2 r}, Fr h₀ L h' m → News h₀ L h' ((x, tup2 (.str si.1 t1) (.int si.2 t2)) :: r) → (c, co) ∈ r → si = outOf (absRun kI.toNat steps 0 []) → Q (.ref x) { s with heap := h', toks := tk }) :
    wpAny (model PW w) A (PySem.call (.ref 327) [.int kI t0, .ref ls]) Q E s := by
  obtain ⟨a1, a2, a3, a4, a5⟩ := hA
  refine wpAny_le (told_call (κ := kI.toNat) (by omega) B F X N T (by omega) hl ht hr h40 fun si {h' tk x t1 t2 r} F' N' hin e => ?_) a1 (by show A.depth ≤ 500; omega) a3 a4 (by show A.units ≤ 2 * 500; omega)
  exact hQ si F' N' (hin _ hc) e
theorem outOf_ok (r : Nat ⊕ List AV) : PyData.strOk (outOf r).1 = true := by
  rcases r with k | (_ | ⟨a | k, r⟩)
  · show PyData.strOk "fails" = true
    decide +kernel
  · show PyData.strOk "undefined" = true
    decide +kernel
  · show PyData.strOk "ends" = true
    decide +kernel
  · show PyData.strOk "undefined" = true
    decide +kernel
theorem outOf_fst {si : Str × Int} {r : Nat ⊕ List AV} (h : si = outOf r) : PyData.strOk si.1 = true := by rw [h]; exact outOf_ok r
theorem tup_eq {prog : Program} {si sj : Str × Int} {x y : Addr} {t1 t2 t3 t4 : Tok} (N : News h₀ L s.heap news) (hx : (x, tup2 (.str si.1 t1) (.int si.2 t2)) ∈ news) (hy : (y, tup2 (.str sj.1 t3) (.int sj.2 t4)) ∈ news) (e : si = sj) (ho : PyData.strOk si.1 = true) (hu : A.units + 64 < cLine) (h : Q (.bool true) s) :
    wpAny (model prog w) A (compareOp .Eq (.ref x) (.ref y)) Q E s := by
  subst e
  refine eq_dataH (reads_tuple_at (N _ hx).1 rfl rfl (ReadsAll.cons (Reads.str _ _) (ReadsAll.cons (Reads.int _ _) ReadsAll.nil))) (reads_tuple_at (N _ hy).1 rfl rfl (ReadsAll.cons (Reads.str _ _) (ReadsAll.cons (Reads.int _ _) ReadsAll.nil))) ?_ ?_ hu ?_
  · simp [SeqAt.shaped, PyData.canLay0, PyData.canLayAll0, PyData.depth, PyData.depthAll, ho]
  · simp [SeqAt.shaped, PyData.canLay0, PyData.canLayAll0, PyData.depth, PyData.depthAll, ho]
  · simp only [PyData.eqv, PyData.eqvAll, beq_self_eq_true, Bool.and_true, Bool.true_and, decide_true]
    exact h
end
theorem pick_sub {l : List Value} {lo hi : Option Int} {v : Value} (h : v ∈ kms_pick l lo hi) : v ∈ l := List.mem_of_mem_drop (List.mem_of_mem_take h)
theorem pick_le {l : List Value} {lo hi : Option Int} : (kms_pick l lo hi).length ≤ l.length := by
  unfold kms_pick
  simp only [List.length_take, List.length_drop]
  omega
theorem pad_room {ys l : List Value} {lo hi : Option Int} (hl : l.length = 11) (hy : ys.length ≤ 100) : ys.toArray.toList.length + (kms_pick l lo hi).toArray.toList.length ≤ sizeLine := by
  have := pick_le (l := l) (lo := lo) (hi := hi)
  rw [sizeLine_eq]
  show ys.length + (kms_pick l lo hi).length ≤ _
  omega
theorem lit_ok {l ys : List Value} {ns ms : List Int} {lo hi : Option Int} (h1 : IntsAre ys ns) (hn : ∀ n ∈ ns, 0 ≤ n ∧ n < 10000) (h : IntsAre l ms) (hm : ∀ n ∈ ms, 0 ≤ n ∧ n < 10000) : ∀ v ∈ ys.toArray.toList ++ (kms_pick l lo hi).toArray.toList, ∃ j t, v = .int j t ∧ 0 ≤ j ∧ j < 10000 := by
  intro v hv
  rcases List.mem_append.mp hv with hv | hv
  · exact cells_ok h1 hn v hv
  · exact cells_ok h hm v (pick_sub hv)
theorem pad_len {l : List Value} {k : Int} {n : Nat} (hl : l.length = 11) (hk : k = (n : Int)) (hn : n < 3) : (kms_pick l (some k) none).length = 11 - n := by
  subst hk
  unfold kms_pick kms_lo kms_hi
  simp only [List.length_take, List.length_drop, hl]
  rw [if_neg (by omega)]
  omega
theorem pad_ok {ys l : List Value} {k : Int} (hl : l.length = 11) (hk : k = (ys.length : Int)) (hn : ys.length < 3) : 3 ≤ (ys.toArray.toList ++ (kms_pick l (some k) none).toArray.toList).length ∧ (ys.toArray.toList ++ (kms_pick l (some k) none).toArray.toList).length ≤ 19 := by
  have := pad_len hl hk hn
  rw [List.length_append]
  show 3 ≤ ys.length + (kms_pick l (some k) none).length ∧ ys.length + (kms_pick l (some k) none).length ≤ 19
  omega
local macro_rules | `(tactic| walk_at "subscriptTail List cons Slice ref ref") => `(tactic| (refine kba_turn (value' := PySem.Expr.Name (PySem.Str.ofString "cells") ⟨0, 0, 0, 0⟩) (fun _ => rfl) ?_; k_here; (with_reducible show wpAny _ _ (subscriptTail _ (PySem.Expr.Slice _ _ none _) (Value.ref _) (Value.ref _)) _ _ _); k_dflt (refine' kms_slice_lit ?zF ?zN ?zl ?zp ?zq ?ze ?_ ?zs ?zt ?zz; (case zF => k_asm); (case zN => k_asm); (case zl => exact News.isList (by k_asm) (by k_mem)); (case zp => kmk_part); (case zq => kmk_part); (case ze => exact rfl); (case zs => exact rfl); (case zt => kmk_pure); (case zz => exact Nat.le_of_ble_eq_true rfl)); intro D' h' F' N' l1; (try k_lt l1); (try k_sweep)))
local macro_rules | `(tactic| walk_at "binaryOp Add ref ref") => `(tactic| (k_here; (with_reducible show wpAny _ _ (binaryOp _ (Value.ref _) (Value.ref _)) _ _ _); k_dflt (refine' kmk_add_lit ?zF ?zN ?za ?zb ?ze ?_ ?zz; (case zF => k_asm); (case zN => k_asm); (case za => exact News.isList (by k_asm) (by k_mem)); (case zb => exact News.isList (by k_asm) (by k_mem)); (case ze => exact rfl); (case zz => exact pad_room rfl (by omega))); intro D' h' F' N' l1; (try k_lt l1); (try k_sweep)))
local macro_rules | `(tactic| walk_at "subscriptTail Name Constant ref int") => `(tactic| ((with_reducible show wpAny _ _ (subscriptTail _ _ (Value.ref _) (Value.int _ _)) _ _ _); k_dflt (refine' item_litK ?y1 ?y2 ?y3 ?y4 ?_ ?y6; (case y1 => exact News.isList (by k_asm) (List.Mem.tail _ (by assumption))); (case y4 => assumption); (case y2 => decide); (case y3 => decide); (case y6 => with_unfolding_all rfl); k_whole)))
local macro_rules | `(tactic| walk_at "call ref") => `(tactic| ((with_reducible show wpAny _ _ (PySem.call (Value.ref 294) _) _ _ _); refine of_stop ?_))
local macro_rules | `(tactic| walk_at "call ref") => `(tactic| ((with_reducible show wpAny _ _ (PySem.call (Value.ref 322) _) _ _ _); k_dflt (refine' done_at ⟨rfl, Nat.le_of_ble_eq_true rfl, rfl, rfl, Nat.le_of_ble_eq_true rfl⟩ ?b ?f ?x ?n ?t ?xb ?tb ?k0 ?k4 ?l ?u ?r ?h ?c ?_; (case b => assumption); (case f => k_asm); (case x => assumption); (case n => k_asm); (case t => assumption); (case xb => assumption); (case tb => assumption); (case k0 => omega); (case k4 => omega); (case l => exact List.Mem.head _); (case u => assumption); (case r => assumption); (case h => assumption); (case c => exact List.Mem.tail _ (by assumption))); intro si' h' tk' x' t1' t2' r' F' N' hc' hl' hu' e'; k_whole))
local macro_rules | `(tactic| walk_at "call ref") => `(tactic| ((with_reducible show wpAny _ _ (PySem.call (Value.ref 327) _) _ _ _); k_dflt (refine' told_at ⟨rfl, Nat.le_of_ble_eq_true rfl, rfl, rfl, Nat.le_of_ble_eq_true rfl⟩ ?b ?f ?x ?n ?t ?k0 ?k4 ?l ?u ?r ?h ?c ?_; (case b => assumption); (case f => k_asm); (case x => assumption); (case n => k_asm); (case t => assumption); (case k0 => omega); (case k4 => omega); (case l => exact List.Mem.tail _ (by assumption)); (case u => assumption); (case r => assumption); (case h => assumption); (case c => exact List.Mem.head _)); intro si' h' tk' x' t1' t2' r' F' N' hc' e'; k_whole))
local macro_rules | `(tactic| walk_at "compareOp Eq ref ref") => `(tactic| ((with_reducible show wpAny _ _ (compareOp CmpOp.Eq (Value.ref _) (Value.ref _)) _ _ _); k_dflt (refine' tup_eq ?n ?x ?y ?e ?o ?u ?_; (case n => k_asm); (case x => exact List.Mem.tail _ (by assumption)); (case y => exact List.Mem.head _); (case e => exact Eq.trans (by assumption) (Eq.symm (by assumption))); (case o => exact outOf_fst (by assumption)); (case u => exact Nat.le_of_ble_eq_true rfl); k_whole)))
set_option maxRecDepth 100000 in
set_option maxHeartbeats 8000000 in
theorem lw : PySem.Challenge.rw_co0007_01.Holds := by
  refine hd ?_
  k_go0
  (all_goals try k_fold)
  k_steps
  all_goals (
    rename IntsAre _ (List.map _ _) => hI8
    rename Fr _ _ _ _ => F8
    rename News _ _ _ _ => N8
    rename Below _ _ _ _ => B8
    rename Frag.In _ _ => X8
    rename Top _ _ _ _ _ _ => T8
    have hlen8 := hI8.length
    rw [List.length_map, List.length_take] at hlen8
    refine ⟨?_⟩)
  · refine plan_at ⟨rfl, Nat.le_of_ble_eq_true rfl, rfl, rfl, Nat.le_of_ble_eq_true rfl⟩ B8 F8 X8 N8 T8 (.head _) (lit_ok (ms := [6, 24, 60, 2, 40, 79, 19, 8, 16, 38, 61]) hI8 mods_ok (.cons _ _ (.cons _ _ (.cons _ _ (.cons _ _ (.cons _ _ (.cons _ _ (.cons _ _ (.cons _ _ (.cons _ _ (.cons _ _ (.cons _ _ .nil))))))))))) (by decide)) (pad_ok rfl (by omega) (by omega)).1 (pad_ok rfl (by omega) (by omega)).2 ?_
    intro h' tk ls ts k r steps c0 t0 F' N' hcm hx0 hts hr hl
    have z4 := fm (a := c0) (b := 4) (by decide)
    clear F8 N8
    k_steps
  · refine plan_at ⟨rfl, Nat.le_of_ble_eq_true rfl, rfl, rfl, Nat.le_of_ble_eq_true rfl⟩ B8 F8 X8 N8 T8 (.head _) (cells_ok hI8 mods_ok) (by simp only [List.length_map, List.length_take] at *; omega) (by omega) ?_
    intro h' tk ls ts k r steps c0 t0 F' N' hcm hx0 hts hr hl
    have z4 := fm (a := c0) (b := 4) (by decide)
    clear F8 N8
    k_steps
end Mine
end
set_option maxRecDepth 100000 in
theorem PySem.Challenge.cw_co0007_01_holds : PySem.Challenge.rw_co0007_01.Holds := by
  exact Mine.lw
