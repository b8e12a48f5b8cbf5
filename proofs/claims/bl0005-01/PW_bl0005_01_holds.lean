import PyProof.Rows.All
import Wide.All
import OpenK.AllK
import Wide.FinOn
import Lean
import PySem.Challenge.RW_bl0005_01
set_option Elab.async false
set_option maxRecDepth 100000
set_option maxHeartbeats 8000000
section
open PySem PySem.W PyProof.Rows
namespace Mine
open_top hd for PySem.Challenge.rw_bl0005_01
end Mine
end
section
open PySem PySem.W PyProof.Rows PySem.Calls
set_option maxRecDepth 100000
set_option maxHeartbeats 4000000
theorem Mine.walkResetS1 : True := by w_top off; trivial
namespace Mine
abbrev PP : Program := PySem.Challenge.pw_bl0005_01
abbrev cdObj (dx : Addr) (es : List DictEntry) (n : Nat) : Obj := { cls := .ref 163, dict := some dx, data := .dict es.toArray n }
abbrev bObj (T : String) (f : Value) (x : Addr) : Obj := { cls := .type T, data := .fields #[f, .ref x] }

theorem at_MethodCall {M : Model} {A : Around} {c : Code} {E : Value → Shared → Prop} {s : Shared} {env : Env} {o : PySem.Expr} {name : Str} {apos pos : Pos} {args : List PySem.Expr} {Q : Value → Shared → Prop}
    (h : PySem.wpAt M A c (attributeBase o name env (eval o env)) (fun ov s₁ => wpAny M A (getMethod ov name (do return (← importBound o env).getD true)) (fun fx s₂ => wpAny M A (callWith pos fx.1 fx.2 (backTo pos (starEach args env)) []) Q E s₂) E s₁) E s)
    (hform : methodCallForm (args.length + ([] : List Keyword).length) (backTo pos (starEach args env)) (backToKw pos (keywordEach [] env)) = true := by rfl)
    (hline : (apos.endLine == pos.line) = true := by rfl) :
    PySem.wpAt M A c (eval (.Call (.Attribute o name apos) args [] pos) env) Q E s := by
  rw [arm_eval_Call]
  refine PySem.wpAt_bind (ks_wpAt_mono h (fun ov s₁ h₁ => PySem.wpAt_of_wpAny (wpAny_bind (wpAny_standAt ?_))) fun _ _ x => x)
  have hpos : methodCallPos true o env apos pos = pure pos := by unfold methodCallPos; simp [hline]
  unfold methodCall
  rw [hform]
  refine wpAny_bind (wpAny_holding (wpAny_mono h₁ (fun fx s₂ h₂ => ?_) fun _ _ x => x))
  exact wpAny_bind (wpAny_of_eq hpos h₂)

def GetQ (h : Heap) (f : Value) (x : Addr) (v : Value) (s' : Shared) (g : Array GenState) (dr : Drawn) (os : OsState) (T : String) : Prop :=
  ∃ q h', v = .ref q ∧ h'.get? q = some (bObj T f x) ∧ h.get? q = none ∧ (∀ b o, h.get? b = some o → h'.get? b = some o) ∧ ∃ t', s' = ⟨h', g, dr, t', os⟩
open PySem.W.X in
theorem getQ_of {h h' : Heap} {q x : Addr} {f : Value} {T : String} {g dr os t} {news : List (Addr × Obj)} (D : Mem h h' [] ((q, bObj T f x) :: news)) : GetQ h f x (.ref q) ⟨h', g, dr, t, os⟩ g dr os T :=
  ⟨q, h', rfl, (D.nw _ (.head _)).1, (D.nw _ (.head _)).2, fun b o e => D.keep b o e (by simp [away]), t, rfl⟩
local macro_rules | `(tactic| x_close) => `(tactic| exact getQ_of (by assumption))
def MdOk (id T gid : String) : Prop := ∀ (w : World) (A : Around) (h : Heap) (g : Array GenState) (dr : Drawn) (t : Nat) (os : OsState) (x dx : Addr) (es : Array DictEntry) (n : Nat) (E : Value → Shared → Prop),
  (hd.heap_39 w.params).In h → h.get? x = some { cls := .ref 163, dict := some dx, data := .dict es n, slots := #[] } →
  wpAny (model PP w) A (call (.builtin gid) [.builtin id, .ref x, .ref 163]) (fun v s' => GetQ h (.builtin id) x v s' g dr os T) E ⟨h, g, dr, t, os⟩

theorem super_ga_b {w : World} {A : Around} {E : Value → Shared → Prop} {h : Heap} {g : Array GenState} {dr : Drawn} {t : Nat} {os : OsState} {so x dx : Addr} {es : Array DictEntry} {n : Nat} {l₀ l : List Value} {name : Str} {tk : Tok} {id T gid D : String} {Q : PySem.Fin → Shared → Prop}
    (hso : h.get? so = some { cls := .type "super", dict := none, data := .fields #[.ref 163, .ref x, .ref 163], slots := #[] })
    (hx : h.get? x = some { cls := .ref 163, dict := some dx, data := .dict es n, slots := #[] })
    (hno : Looks (model PP w) h (opaqueClassAbove (.ref 163)) none)
    (hC : Looks (model PP w) h (mroOf (.ref 163)) l₀) (hl : (l₀.dropWhile (· != .ref 163)).drop 1 = l) (X : (hd.heap_39 w.params).In h)
    (hf : alongIn (hd.heap_39 w.params) name l = some (some (.builtin id))) (hty : typeOf (.builtin id) = pure (.type D)) (hgt : typeLookup (.type D) "__get__" = pure (some (.builtin gid)))
    (hmd : MdOk id T gid) (hxC : x ≠ 163) (hn : (name == ("__class__" : Str)) = false)
    (hq : ∀ q h' t', h'.get? q = some (bObj T (.builtin id) x) → h.get? q = none → (∀ b o, h.get? b = some o → h'.get? b = some o) → Q (.done (.ret (.ref q))) ⟨h', g, dr, t', os⟩) :
    wpAny (model PP w) A (Builtin.«super.__getattribute__» ⟨[.ref so, .str name tk], []⟩) Q E ⟨h, g, dr, t, os⟩ := by
  have hne : (Value.ref x == Value.ref 163) = false := by simp [hxC]
  have hdt : ({ cls := .type "super", dict := none, data := .fields #[.ref 163, .ref x, .ref 163], slots := #[] } : Obj).data = .fields #[.ref 163, .ref x, .ref 163] := rfl
  have f0 : (#[.ref 163, .ref x, .ref 163] : Array Value)[0]? = some (.ref 163) := rfl
  have f1 : (#[.ref 163, .ref x, .ref 163] : Array Value)[1]? = some (.ref x) := rfl
  have f2 : (#[.ref 163, .ref x, .ref 163] : Array Value)[2]? = some (.ref 163) := rfl
  have hm := hmd w A h g dr t os x dx es n E X hx
  unfold Builtin.«super.__getattribute__»
  repeat (first
    | (with_reducible refine wpAny_field hso hdt f0 ?_) | (with_reducible refine wpAny_field hso hdt f1 ?_) | (with_reducible refine wpAny_field hso hdt f2 ?_)
    | (with_reducible refine ks_wpAny_notOpaque hno ?_)
    | (with_reducible refine Looks.at hC ?_; rw [hl])
    | (refine ks_forIn_along X (fun _ _ => rfl) rfl ?_ hf)
    | (with_reducible refine wpAny_of_eq hty ?_)
    | (with_reducible refine wpAny_of_eq hgt ?_)
    | (with_reducible refine wpAny_holding ?_)
    | (simp only [hn, hne, Bool.or_false, Bool.false_eq_true, if_false])
    | (with_reducible refine wpAny_mono hm (fun v s' hv => ?_) fun _ _ z => z)
    | wp_step
    | dsimp only)
  all_goals (obtain ⟨q, h', rfl, hb, hn', hk, t', rfl⟩ := hv; exact hq _ _ _ hb hn' hk)

theorem getMethod_super_b {w : World} {A : Around} {E : Value → Shared → Prop} {h : Heap} {g : Array GenState} {d : Drawn} {t : Nat} {os : OsState} {so x dx : Addr} {es : Array DictEntry} {n : Nat} {l₀ l : List Value} {name : Str} {id T gid D : String} {pl : Sem Bool} {Q : Value × List Value → Shared → Prop}
    (hso : h.get? so = some { cls := .type "super", dict := none, data := .fields #[.ref 163, .ref x, .ref 163], slots := #[] })
    (hx : h.get? x = some { cls := .ref 163, dict := some dx, data := .dict es n, slots := #[] })
    (hno : Looks (model PP w) h (opaqueClassAbove (.ref 163)) none)
    (hC : Looks (model PP w) h (mroOf (.ref 163)) l₀) (hl : (l₀.dropWhile (· != .ref 163)).drop 1 = l) (X : (hd.heap_39 w.params).In h)
    (hf : alongIn (hd.heap_39 w.params) name l = some (some (.builtin id))) (hty : typeOf (.builtin id) = pure (.type D)) (hgt : typeLookup (.type D) "__get__" = pure (some (.builtin gid)))
    (hmd : MdOk id T gid) (hxC : x ≠ 163) (hn : (name == ("__class__" : Str)) = false)
    (hq : ∀ q h' t', h'.get? q = some (bObj T (.builtin id) x) → h.get? q = none → (∀ b o, h.get? b = some o → h'.get? b = some o) → Q (.ref q, []) ⟨h', g, d, t', os⟩) :
    wpAny (model PP w) A (getMethod (.ref so) name pl) Q E ⟨h, g, d, t, os⟩ := by
  have hlk := F.ks_slot_super_ga.lookup
  have hcan := F.ks_canon_super_ga
  have hT : ∀ t', (⟨h, g, d, t', os⟩ : Shared).TypeIs (.ref so) "super" := fun _ => ⟨_, hso, rfl⟩
  unfold getMethod
  refine wpAny_bind (wpAny_specialOf (hT _) hlk ?_)
  show wpAny _ _ (if (Manifest.canonical "super.__getattribute__" != "object.__getattribute__") = true then _ else _) _ _ _
  rw [if_pos hcan]
  unfold getAttr getAttrBy
  refine wpAny_bind (wpAny_bind (wpAny_mkText (wpAny_holding (wpAny_bind (wpAny_typeOf (hT _) (wpAny_bind (wpAny_of_eq hlk ?_)))))))
  show wpAny _ _ (getAttrByItsOwn (.ref so) (.str name t) (.type "super") (.builtin "super.__getattribute__") true false) _ _ _
  unfold getAttrByItsOwn hookBefore callGetattribute boundAndCalled
  refine wpAny_bind (wpAny_of_eq (show (if onTheHeap (.type "super") then typeLookup (.type "super") "__getattr__" else pure none) = pure none from rfl) ?_)
  refine wpAny_bind (wpAny_attempt (wpAny_holding ?_))
  show wpAny _ _ (bindSpecial (.builtin "super.__getattribute__") (.ref so) >>= _) _ _ _
  refine wpAny_bind (wpAny_of_eq (F.ks_slot_super_ga.bind _) ?_)
  refine wpAny_mono (Q := fun v s' => GetQ h (.builtin id) x v s' g d os T) (E := fun _ _ => False)
    (wpAny_call_entry F.ks_slot_super_ga (hT _) F.ks_entry_super_ga (super_ga_b hso hx hno hC hl X hf hty hgt hmd hxC hn (fun q h' t' a b c => ⟨_, rfl, q, h', rfl, a, b, c, t', rfl⟩)) (F.ks_gaArgs_super _ _)) (fun v s' hv => ?_) fun _ _ z => z.elim
  obtain ⟨q, h', rfl, hb, hn', hk, t', rfl⟩ := hv
  exact wpAny_pure (wpAny_pure (hq _ _ _ hb hn' hk))

section
variable {w : World} {A : Around} {E : Value → Shared → Prop} {s : Shared} {h₀ : Heap} {L : Addr} {m : Str → Option Value} {news : List (Addr × Obj)} {so x dx q : Addr} {es : List DictEntry} {n : Nat}
/-- a new object onto the ledger -/
theorem news_new {h h' : Heap} {q : Addr} {o : Obj} (F : Fr h₀ L h m) (N : News h₀ L h news) (hq : h.get? q = none) (ho : h'.get? q = some o) (k : ∀ b o, h.get? b = some o → h'.get? b = some o) :
    Fr h₀ L h' m ∧ News h₀ L h' ((q, o) :: news) ∧ ∀ p ∈ news, p.1 ≠ q := by
  obtain ⟨oL, es, ep, hL, r⟩ := F.ns
  refine ⟨⟨⟨oL, es, ep, k _ _ hL, r⟩, fun b o e => k b o (F.keep b o e), F.above⟩, fun p hp => ?_, fun p hp e => ?_⟩
  · rcases List.mem_cons.mp hp with rfl | hp
    · refine ⟨ho, fun e => ?_, ?_⟩
      · subst e; rw [hq] at hL; cases hL
      · cases z : h₀.get? q with
        | none => rfl
        | some o => rw [F.keep _ _ z] at hq; cases hq
    · exact ⟨k _ _ (N p hp).1, (N p hp).2⟩
  · have := (N p hp).1; rw [e, hq] at this; cases this
end
end Mine
end
section
open PySem PySem.W PyProof.Rows PySem.Calls
set_option maxRecDepth 100000
set_option maxHeartbeats 4000000
theorem Mine.walkResetS2 : True := by w_top off; trivial
namespace Mine
theorem mro_module (w : World) : mroIn (hd.heap_39 w.params) 163 (.type "module") = some false := by kernel_rfl
theorem mro_dict (w : World) : mroIn (hd.heap_39 w.params) 163 (.type "dict") = some true := by kernel_rfl
theorem mro_od (w : World) : mroIn (hd.heap_39 w.params) 163 (.type "collections.OrderedDict") = some false := by kernel_rfl
theorem type_C (w : World) : typeIn (hd.heap_39 w.params) (.ref 163) = some (.type "type") := by kernel_rfl
theorem cls_C (w : World) : (clsIn (hd.heap_39 w.params) 163).map (·.qualname) = some (Str.ofString "CaselessDict") := by kernel_rfl
section
variable {w : World} {A : Around} {E : Value → Shared → Prop} {h : Heap} {g : Array GenState} {d : Drawn} {t : Nat} {os : OsState} {x dx : Addr} {es : Array DictEntry} {n : Nat}
theorem isInst_cd {T : String} {b : Bool} (X : (hd.heap_39 w.params).In h) (hx : h.get? x = some { cls := .ref 163, dict := some dx, data := .dict es n, slots := #[] }) (hm : mroIn (hd.heap_39 w.params) 163 (.type T) = some b) :
    Looks (model PP w) h (isInstance (.ref x) (.type T)) b := by
  unfold isInstance
  exact ((Looks.ld hx).andThen .now).andThen (looks_mroIn X hm)
theorem type_cd (hx : h.get? x = some { cls := .ref 163, dict := some dx, data := .dict es n, slots := #[] }) :
    Looks (model PP w) h (typeOf (.ref x)) (.ref 163) := (Looks.ld hx).andThen .now
theorem isType_cd (hx : h.get? x = some { cls := .ref 163, dict := some dx, data := .dict es n, slots := #[] }) :
    Looks (model PP w) h (isType (.ref x)) false := by
  intro A Q E s k q
  obtain ⟨hh, g, d, t, os⟩ := s
  exact ks_wpAny_isType_inst (k _ _ hx) (fun c e => by cases e) q
theorem check_bound_m {id : String} {args : List Value} {sig : Manifest.Signature} {Q : Unit → Shared → Prop} (X : (hd.heap_39 w.params).In h) (hx : h.get? x = some { cls := .ref 163, dict := some dx, data := .dict es n, slots := #[] })
    (hs : Manifest.signature? id = some sig) (hk : builtinKind id = some .method) (hv : Manifest.varargsMethods.contains id = false)
    (hargs : Bind.checkArgs id { sig with full := s!"{(Str.ofString "CaselessDict").toString}.{Bind.lastOf id}" } ⟨.ref x :: args, []⟩ = pure ()) (q : Q () ⟨h, g, d, t, os⟩) :
    wpAny (model PP w) A (checkBoundCall id ⟨.ref x :: args, []⟩) Q E ⟨h, g, d, t, os⟩ := by
  have L1 := isInst_cd X hx (mro_module w)
  have L2 := isType_cd (w := w) hx
  have L3 := type_cd (w := w) hx
  have L4 : Looks (model PP w) h (typeOf (.ref 163)) (.type "type") := looks_typeIn X (type_C w)
  obtain ⟨cd, hc, hq⟩ := Option.map_eq_some_iff.mp (cls_C w)
  have L5 : Looks (model PP w) h (classData 163) cd := looks_clsIn X hc
  unfold checkBoundCall
  rw [hs]
  dsimp only
  rw [hk]
  dsimp only
  rw [if_neg (by decide)]
  refine wpAny_bind (L1.at ?_)
  rw [hv]
  rw [if_neg (by decide)]
  refine wpAny_bind (L2.at ?_)
  rw [if_neg (by decide)]
  refine wpAny_bind (L3.at ?_)
  dsimp only
  refine wpAny_bind (L5.at ?_)
  refine wpAny_bind (L4.at ?_)
  rw [if_pos (by decide)]
  rw [hq, hargs]
  exact wpAny_pure q
theorem check_bound_s {id : String} {args : List Value} {sig : Manifest.Signature} {Q : Unit → Shared → Prop}
    (hs : Manifest.signature? id = some sig) (hk : builtinKind id = some .slot)
    (hargs : Bind.checkArgs id sig ⟨.ref x :: args, []⟩ = pure ()) (q : Q () ⟨h, g, d, t, os⟩) :
    wpAny (model PP w) A (checkBoundCall id ⟨.ref x :: args, []⟩) Q E ⟨h, g, d, t, os⟩ := by
  unfold checkBoundCall
  rw [hs]
  dsimp only
  rw [hk]
  dsimp only
  rw [if_pos (by decide), hargs]
  exact wpAny_pure q
theorem call_bound {id T : String} {b : Builtin} {q : Addr} {args : List Value} {Q : Value → Shared → Prop} (hT : T = "builtin_function_or_method" ∨ T = "method-wrapper") (hq : h.get? q = some (bObj T (.builtin id) x))
    (hchk : ∀ (Q' : Unit → Shared → Prop) (E' : Value → Shared → Prop), Q' () ⟨h, g, d, t, os⟩ → wpAny (model PP w) A.in1 (checkBoundCall id ⟨.ref x :: args, []⟩) Q' E' ⟨h, g, d, t, os⟩)
    (hp : plainId id = true) (hb : entryFor table id = some b)
    (hr : wpAny (model PP w) A.in1 (b ⟨.ref x :: args, []⟩) (fun fin s' => ∃ v, fin = .done (.ret v) ∧ Q v s') E ⟨h, g, d, t, os⟩) :
    wpAny (model PP w) A (call (.ref q) args) Q E ⟨h, g, d, t, os⟩ := by
  refine wpAny_call (codeAny_of_tree ?_)
  show wpAny _ A.in1 (callAny (.ref q) ⟨args, []⟩) _ _ _
  unfold callAny
  refine wpAny_bind (wpAny_load hq ?_)
  dsimp only
  rw [if_pos (by rcases hT with rfl | rfl <;> decide)]

  have e0 : (#[Value.builtin id, Value.ref x] : Array Value)[0]? = some (.builtin id) := rfl
  have e1 : (#[Value.builtin id, Value.ref x] : Array Value)[1]? = some (.ref x) := rfl
  simp only [e0, e1]
  rw [if_pos (by rcases hT with rfl | rfl <;> decide)]
  refine wpAny_bind (hchk _ _ ?_)
  refine wpAny_pure ⟨plainId_quiet hp _, codeAny_builtin hb ?_⟩
  rw [Around.under_plainId hp]
  exact wpAny_mono hr (fun fin s' ⟨v, e, z⟩ => by subst e; exact z) fun _ _ z => z
end
end Mine
end
section
open PySem PySem.W PyProof.Rows PySem.Calls
set_option maxRecDepth 100000
set_option maxHeartbeats 4000000
theorem Mine.walkResetS3 : True := by w_top off; trivial
namespace Mine
abbrev Ents := List (Str × Int)
def ix (c : Ents) (u : Str) : Option Nat := c.findIdx? (fun p => decide (p.1 = u))
def cget (c : Ents) (u : Str) : Option Int := (ix c u).bind fun i => (c[i]?).map (·.2)
def cput (c : Ents) (u : Str) (v : Int) : Ents := match ix c u with
  | some i => c.modify i fun p => (p.1, v)
  | none => c ++ [(u, v)]
def cdel (c : Ents) (u : Str) : Ents := match ix c u with
  | some i => c.eraseIdx i
  | none => c
def EKp (w : World) (e : DictEntry) (p : Str × Int) : Prop := (∃ t, e.key = .str p.1 t) ∧ e.hash = hashStr w p.1 ∧ ∃ t, e.val = .int p.2 t
noncomputable def EK (w : World) : List DictEntry → Ents → Prop
  | [], [] => True
  | e :: es, p :: c => EKp w e p ∧ EK w es c
  | _, _ => False
theorem EK.nil {w : World} : EK w [] [] := trivial
theorem EK.length {w : World} : ∀ {es : List DictEntry} {c : Ents}, EK w es c → es.length = c.length
  | [], [], _ => rfl
  | _ :: _, _ :: _, h => by rw [List.length_cons, List.length_cons, EK.length h.2]
  | [], _ :: _, h => h.elim
  | _ :: _, [], h => h.elim
theorem EKp.is {w : World} {e : DictEntry} {p : Str × Int} (h : EKp w e p) (u : Str) : (strKind PP w).is u e.key = decide (p.1 = u) := by
  obtain ⟨⟨t, hk⟩, _⟩ := h
  have := KeyKind.is_eq_decide (knd := strKind PP w) (k := p.1) (v := e.key) (by rw [hk]; exact strKind_is _ _ _ _) u
  rw [this]
  by_cases q : u = p.1
  · subst q; simp
  · have : ¬ p.1 = u := fun e => q e.symm
    simp [q, this]
theorem EK.find {w : World} (u : Str) : ∀ {es : List DictEntry} {c : Ents}, EK w es c → (es.findIdx? fun e => (strKind PP w).is u e.key) = ix c u
  | [], [], _ => rfl
  | e :: es, p :: c, h => by
    unfold ix
    rw [List.findIdx?_cons, List.findIdx?_cons, h.1.is u, EK.find u h.2]
    rfl
  | [], _ :: _, h => h.elim
  | _ :: _, [], h => h.elim
theorem EK.at {w : World} : ∀ {es : List DictEntry} {c : Ents} {i : Nat} {p : Str × Int}, EK w es c → c[i]? = some p → ∃ e, es[i]? = some e ∧ EKp w e p
  | e :: es, q :: c, 0, p, h, hp => by
    obtain rfl : q = p := by simpa using hp
    exact ⟨e, rfl, h.1⟩
  | e :: es, q :: c, i + 1, p, h, hp => EK.at (i := i) h.2 (by simpa using hp)
  | [], _ :: _, _, _, h, _ => h.elim
  | _ :: _, [], _, _, h, _ => h.elim
  | [], [], _, _, _, hp => by simp at hp
theorem EK.mem {w : World} : ∀ {es : List DictEntry} {c : Ents}, EK w es c → ∀ e ∈ es, ∃ p ∈ c, EKp w e p
  | e :: es, p :: c, h, e', hm => by
    rcases List.mem_cons.mp hm with rfl | hm
    · exact ⟨p, .head _, h.1⟩
    · obtain ⟨q, hq, r⟩ := EK.mem h.2 e' hm
      exact ⟨q, .tail _ hq, r⟩
  | [], [], _, _, hm => nomatch hm
  | [], _ :: _, h, _, _ => h.elim
  | _ :: _, [], h, _, _ => h.elim
theorem EK.keysOf {w : World} {es : List DictEntry} {c : Ents} (h : EK w es c) : KeysOf (strKind PP w) es.toArray := by
  intro e he
  obtain ⟨p, _, ⟨t, hk⟩, hh, _⟩ := h.mem e (by simpa using he)
  exact ⟨p.1, by rw [hk]; exact strKind_is _ _ _ _, hh⟩
theorem EK.push {w : World} {e : DictEntry} {p : Str × Int} (hp : EKp w e p) : ∀ {es : List DictEntry} {c : Ents}, EK w es c → EK w (es ++ [e]) (c ++ [p])
  | [], [], _ => ⟨hp, trivial⟩
  | _ :: _, _ :: _, h => ⟨h.1, EK.push hp h.2⟩
  | [], _ :: _, h => h.elim
  | _ :: _, [], h => h.elim
theorem EK.modify {w : World} {v : Int} {t : Tok} : ∀ {es : List DictEntry} {c : Ents} (i : Nat), EK w es c → EK w (es.modify i fun e => { e with val := .int v t }) (c.modify i fun p => (p.1, v))
  | [], [], i, _ => by simp [EK]
  | _ :: _, _ :: _, 0, h => by simp only [List.modify_zero_cons]; exact ⟨⟨h.1.1, h.1.2.1, t, rfl⟩, h.2⟩
  | _ :: _, _ :: _, i + 1, h => by simp only [List.modify_succ_cons]; exact ⟨h.1, EK.modify i h.2⟩
  | [], _ :: _, _, h => h.elim
  | _ :: _, [], _, h => h.elim
theorem EK.erase {w : World} : ∀ {es : List DictEntry} {c : Ents} (i : Nat), EK w es c → EK w (es.eraseIdx i) (c.eraseIdx i)
  | [], [], i, _ => by simp [EK]
  | _ :: _, _ :: _, 0, h => by simpa using h.2
  | _ :: _, _ :: _, i + 1, h => by simp only [List.eraseIdx_cons_succ]; exact ⟨h.1, EK.erase i h.2⟩
  | [], _ :: _, _, h => h.elim
  | _ :: _, [], _, h => h.elim
theorem EK.pop {w : World} : ∀ {es : List DictEntry} {c : Ents}, EK w es c → EK w es.dropLast c.dropLast
  | [], [], _ => trivial
  | [_], [_], _ => trivial
  | _ :: e :: es, _ :: p :: c, h => by
    show EK w (_ :: (e :: es).dropLast) (_ :: (p :: c).dropLast)
    exact ⟨h.1, EK.pop h.2⟩
  | [], _ :: _, h => h.elim
  | _ :: _, [], h => h.elim
  | [_], _ :: _ :: _, h => h.2.elim
  | _ :: _ :: _, [_], h => h.2.elim
theorem EK.last {w : World} {p : Str × Int} : ∀ {es : List DictEntry} {c : Ents}, EK w es c → c.getLast? = some p → ∃ e, es.getLast? = some e ∧ EKp w e p
  | [], [], _, hp => by simp at hp
  | [e], [q], h, hp => by
    obtain rfl : q = p := by simpa using hp
    exact ⟨e, rfl, h.1⟩
  | _ :: e :: es, _ :: q :: c, h, hp => by
    obtain ⟨e', he, r⟩ := EK.last (es := e :: es) (c := q :: c) h.2 (by simpa [List.getLast?_cons_cons] using hp)
    exact ⟨e', by simpa [List.getLast?_cons_cons] using he, r⟩
  | [], _ :: _, h, _ => h.elim
  | _ :: _, [], h, _ => h.elim
  | [_], _ :: _ :: _, h, _ => h.2.elim
  | _ :: _ :: _, [_], h, _ => h.2.elim

abbrev dO (T : Value) (dd : Option Addr) (es : List DictEntry) (n : Nat) : Obj := { cls := T, dict := dd, data := .dict es.toArray n }
section
variable {w : World} {A : Around} {E : Value → Shared → Prop} {s : Shared} {d : Addr} {T : Value} {dd : Option Addr} {es : List DictEntry} {n : Nat} {c : Ents} {u : Str} {t : Tok}
theorem d_find {Q : Option Nat → Shared → Prop} (ho : s.heap.get? d = some (dO T dd es n)) (hE : EK w es c) (h : Q (ix c u) s) : wpAny (model PP w) A (dictFind d (.str u t) (hashStr w u)) Q E s := by
  refine wpAny_dictFind_of (knd := strKind PP w) (k := u) (strKind_is _ _ _ _) ho rfl hE.keysOf ?_
  have : (es.toArray.findIdx? fun e => (strKind PP w).is u e.key) = ix c u := by rw [← hE.find u]; simp
  rw [this]; exact h
theorem ix_lt {c : Ents} {u : Str} {i : Nat} (h : ix c u = some i) : ∃ v, c[i]? = some (u, v) ∧ cget c u = some v := by
  unfold ix at h
  obtain ⟨hlt, hp, _⟩ := List.findIdx?_eq_some_iff_getElem.mp h
  have hk : c[i].1 = u := by simpa using hp
  refine ⟨c[i].2, ?_, ?_⟩
  · rw [List.getElem?_eq_getElem hlt, ← hk]
  · unfold cget ix; rw [h]; simp [List.getElem?_eq_getElem hlt]
theorem cget_none {c : Ents} {u : Str} (h : ix c u = none) : cget c u = none := by unfold cget; rw [h]; rfl
theorem ix_of_cget {c : Ents} {u : Str} {v : Int} (h : cget c u = some v) : ∃ i, ix c u = some i := by
  cases q : ix c u with
  | none => rw [cget_none q] at h; cases h
  | some i => exact ⟨i, rfl⟩
theorem d_get {Q : Option Value → Shared → Prop} (ho : s.heap.get? d = some (dO T dd es n)) (hE : EK w es c)
    (hnone : cget c u = none → Q none { s with toks := s.toks + 1 }) (hsome : ∀ v t', cget c u = some v → Q (some (.int v t')) { s with toks := s.toks + 1 }) : wpAny (model PP w) A (dictGet d (.str u t)) Q E s := by
  unfold dictGet
  try with_reducible refine wpAny_holding ?_
  refine wpAny_bind ((strKind PP w).pyHash (k := u) (strKind_is _ _ _ _) (wpAny_bind (d_find (s := { s with toks := s.toks + 1 }) ho hE ?_)))
  cases hi : ix c u with
  | none => exact wpAny_pure (hnone (cget_none hi))
  | some i =>
    obtain ⟨v, hc, hv⟩ := ix_lt hi
    obtain ⟨e, he, _, _, t', hev⟩ := hE.at hc
    refine wpAny_bind (wpAny_dictEntries (s := { s with toks := s.toks + 1 }) ho rfl (wpAny_pure ?_))
    have : (es.toArray[i]?).map (·.val) = some (.int v t') := by simp [he, hev]
    rw [this]; exact hsome v t' hv
theorem d_set {v : Int} {tv : Tok} {Q : Unit → Shared → Prop} (ho : s.heap.get? d = some (dO T dd es n)) (hE : EK w es c) (hsz : c.length ≤ 1000)
    (hQ : ∀ h' es' n', h'.get? d = some (dO T dd es' n') → EK w es' (cput c u v) → Heap.SameBut d s.heap h' → Q () { s with heap := h', toks := s.toks + 1 }) :
    wpAny (model PP w) A (dictSet d (.str u t) (.int v tv)) Q E s := by
  have hz : es.toArray.size ≤ sizeLine := by rw [List.size_toArray, hE.length, sizeLine_eq]; omega
  unfold dictSet
  try with_reducible refine wpAny_holding ?_
  refine wpAny_bind ((strKind PP w).pyHash (k := u) (strKind_is _ _ _ _) ?_)
  unfold dictSetHashed
  try with_reducible refine wpAny_holding ?_
  refine wpAny_bind (d_find (s := { s with toks := s.toks + 1 }) ho hE ?_)
  cases hi : ix c u with
  | some i =>
    refine wpAny_bind (wpAny_rule (wpAny_bind (wpAny_updateDict (s := { s with toks := s.toks + 1 }) ho rfl (wpAny_point (hQ _ (es.modify i fun e => { e with val := .int v tv }) n ?_ ?_ (Heap.SameBut.update ..))))))
    · rw [Heap.get?_update_self _ ho (Obj.isFreed_of_dict (Obj.data_mapDict rfl _))]
      simp [Obj.mapDict, dO]
    · unfold cput; rw [hi]; exact hE.modify i
  | none =>
    refine wpAny_bind (wpAny_rule (wpAny_updateDictKeys (hz := hz) (s := { s with toks := s.toks + 1 }) ho rfl (hQ _ (es ++ [⟨hashStr w u, .str u t, .int v tv⟩]) (n + 1) ?_ ?_ (Heap.SameBut.update ..))))
    · rw [Heap.get?_update_self _ ho (Obj.isFreed_of_dict (Obj.data_mapDictKeys rfl _))]
      simp [Obj.mapDictKeys, dO]
      try rfl
    · unfold cput; rw [hi]; exact hE.push ⟨⟨t, rfl⟩, rfl, tv, rfl⟩
theorem d_setdefault {v : Int} {tv : Tok} {Q : Value → Shared → Prop} (ho : s.heap.get? d = some (dO T dd es n)) (hE : EK w es c) (hsz : c.length ≤ 1000)
    (hthere : ∀ v' t', cget c u = some v' → Q (.int v' t') { s with toks := s.toks + 1 })
    (hnew : cget c u = none → ∀ h' es' n', h'.get? d = some (dO T dd es' n') → EK w es' (cput c u v) → Heap.SameBut d s.heap h' → Q (.int v tv) { s with heap := h', toks := s.toks + 1 }) :
    wpAny (model PP w) A (dictSetDefault d (.str u t) (.int v tv)) Q E s := by
  have hz : es.toArray.size ≤ sizeLine := by rw [List.size_toArray, hE.length, sizeLine_eq]; omega
  unfold dictSetDefault
  try with_reducible refine wpAny_holding ?_
  refine wpAny_bind ((strKind PP w).pyHash (k := u) (strKind_is _ _ _ _) ?_)
  refine wpAny_bind (d_find (s := { s with toks := s.toks + 1 }) ho hE ?_)
  cases hi : ix c u with
  | some i =>
    obtain ⟨v', hc, hv⟩ := ix_lt hi
    obtain ⟨e, he, _, _, t', hev⟩ := hE.at hc
    refine wpAny_bind (wpAny_dictEntries (s := { s with toks := s.toks + 1 }) ho rfl ?_)
    have : es.toArray[i]? = some e := by simp [he]
    rw [this]
    refine wpAny_bind (wpAny_rule (wpAny_pure ?_))
    rw [hev]; exact hthere v' t' hv
  | none =>
    refine wpAny_bind (wpAny_rule (wpAny_bind (wpAny_updateDictKeys (hz := hz) (s := { s with toks := s.toks + 1 }) ho rfl (wpAny_pure (hnew (cget_none hi) _ (es ++ [⟨hashStr w u, .str u t, .int v tv⟩]) (n + 1) ?_ ?_ (Heap.SameBut.update ..))))))
    · rw [Heap.get?_update_self _ ho (Obj.isFreed_of_dict (Obj.data_mapDictKeys rfl _))]
      simp [Obj.mapDictKeys, dO]
      try rfl
    · unfold cput; rw [hi]; exact hE.push ⟨⟨t, rfl⟩, rfl, tv, rfl⟩
theorem d_takeOut {Q : Option DictEntry → Shared → Prop} (ho : s.heap.get? d = some (dO T dd es n)) (hE : EK w es c) (hsz : c.length ≤ 1000)
    (hnone : cget c u = none → Q none { s with toks := s.toks + 1 })
    (hsome : ∀ e v, cget c u = some v → EKp w e (u, v) → ∀ h' es' n', h'.get? d = some (dO T dd es' n') → EK w es' (cdel c u) → Heap.SameBut d s.heap h' → Q (some e) { s with heap := h', toks := s.toks + 1 }) :
    wpAny (model PP w) A (Builtin.Dict.takeOut d (.str u t)) Q E s := by
  have hz : es.toArray.size ≤ sizeLine := by rw [List.size_toArray, hE.length, sizeLine_eq]; omega
  unfold Builtin.Dict.takeOut
  try with_reducible refine wpAny_holding ?_
  refine wpAny_bind ((strKind PP w).pyHash (k := u) (strKind_is _ _ _ _) ?_)
  refine wpAny_bind (d_find (s := { s with toks := s.toks + 1 }) ho hE ?_)
  cases hi : ix c u with
  | none => exact wpAny_pure (hnone (cget_none hi))
  | some i =>
    obtain ⟨v', hc, hv⟩ := ix_lt hi
    obtain ⟨e, he, hek⟩ := hE.at hc
    refine wpAny_bind (wpAny_dictEntries (s := { s with toks := s.toks + 1 }) ho rfl ?_)
    have : es.toArray[i]? = some e := by simp [he]
    rw [this]
    refine wpAny_bind (wpAny_updateDictKeys (hz := hz) (s := { s with toks := s.toks + 1 }) ho rfl (wpAny_pure (hsome e v' hv hek _ (es.eraseIdx i) (n + 1) ?_ ?_ (Heap.SameBut.update ..))) ?_)
    · rw [Heap.get?_update_self _ ho (Obj.isFreed_of_dict (Obj.data_mapDictKeys rfl _))]
      have hlt : i < es.length := by
        rcases Nat.lt_or_ge i es.length with q | q
        · exact q
        · rw [List.getElem?_eq_none q] at he; cases he
      simp [Obj.mapDictKeys, dO, Array.eraseIdxIfInBounds, hlt]
    · unfold cdel; rw [hi]; exact hE.erase i
    · have : (es.toArray.eraseIdxIfInBounds i).size ≤ es.toArray.size := by
        unfold Array.eraseIdxIfInBounds; split
        · rw [Array.size_eraseIdx]; omega
        · exact Nat.le_refl _
      omega
end
end Mine
end
section
open PySem PySem.W PyProof.Rows PySem.Calls
set_option maxRecDepth 100000
set_option maxHeartbeats 4000000
theorem Mine.walkResetS4 : True := by w_top off; trivial
namespace Mine
def NOk (w : World) (h : Heap) (d : Addr) : Prop := ∀ (A : Around) (E : Value → Shared → Prop) (Q : Unit → Shared → Prop) (name : String) (args : List Value) (kw : List (Str × Value)) (s : Shared), s.heap = h → Q () s → wpAny (model PP w) A (Builtin.Dict.notOrdered name ⟨.ref d :: args, kw⟩) Q E s
theorem nok_due {w : World} {h : Heap} {d : Addr} {o : Obj} (ho : h.get? d = some o) (hc : o.cls = .type "dict") : NOk w h d := by
  intro A E Q name args kw s e q
  subst e
  exact wpAny_notOrdered_dict (args := ⟨.ref d :: args, kw⟩) ⟨o, ho, hc⟩ q
theorem nok_told {w : World} {h : Heap} {d dx : Addr} {es : Array DictEntry} {n : Nat} (X : (hd.heap_39 w.params).In h) (ho : h.get? d = some { cls := .ref 163, dict := some dx, data := .dict es n, slots := #[] }) : NOk w h d := by
  rintro A E Q name args kw ⟨hh, g, dr, t, os⟩ e q
  dsimp only at e
  subst e
  have L1 := type_cd (w := w) ho
  have L2 := isInst_cd X ho (mro_od w)
  unfold Builtin.Dict.notOrdered
  split
  · refine wpAny_bind (L1.at ?_)
    rw [if_pos (by decide)]
    refine wpAny_bind (L2.at ?_)
    rw [if_neg (by decide)]
    exact wpAny_pure q
  · exact wpAny_pure q
section
variable {w : World} {A : Around} {E : Value → Shared → Prop} {s : Shared} {d : Addr} {T : Value} {dd : Option Addr} {es : List DictEntry} {n : Nat} {c : Ents} {u : Str} {t : Tok} {R : Value → Shared → Prop}
abbrev FinQ (R : Value → Shared → Prop) (fin : PySem.Fin) (s' : Shared) : Prop := ∃ v, fin = .done (.ret v) ∧ R v s'
theorem b_contains (hd' : (d == sysModules) = false) (ho : s.heap.get? d = some (dO T dd es n)) (hE : EK w es c) (h : R (.bool (cget c u).isSome) { s with toks := s.toks + 1 }) :
    wpAny (model PP w) A (Builtin.«dict.__contains__» ⟨[.ref d, .str u t], []⟩) (FinQ R) E s := by
  show wpAny _ _ (dictGet d (.str u t) >>= _) _ _ s
  refine wpAny_bind (d_get ho hE (fun e => ?_) fun v t' e => ?_)
  · rw [e] at h
    show wpAny _ _ (Builtin.Dict.pendingKey? d _ >>= _) _ _ _
    exact wpAny_bind (wpAny_pendingKey_other hd' (wpAny_pure ⟨_, rfl, h⟩))
  · rw [e] at h
    exact wpAny_pure ⟨_, rfl, h⟩
theorem b_get (hN : NOk w s.heap d) (hd' : (d == sysModules) = false) (ho : s.heap.get? d = some (dO T dd es n)) (hE : EK w es c) {dflt : Value}
    (hnone : cget c u = none → R dflt { s with toks := s.toks + 1 }) (hsome : ∀ v t', cget c u = some v → R (.int v t') { s with toks := s.toks + 1 }) :
    wpAny (model PP w) A (Builtin.«dict.get» ⟨[.ref d, .str u t, dflt], []⟩) (FinQ R) E s := by
  unfold Builtin.«dict.get»
  refine wpAny_bind ?_
  unfold Builtin.Dict.keyAndDefault
  refine wpAny_bind (hN _ _ _ _ _ _ _ rfl ?_)
  show wpAny _ _ (pure (d, Value.str u t, some dflt)) _ _ s
  refine wpAny_pure ?_
  refine wpAny_bind (d_get ho hE (fun e => ?_) fun v t' e => ?_)
  · show wpAny _ _ (Builtin.Dict.missed d _ >>= _) _ _ _
    exact wpAny_bind (wpAny_missed_other hd' (wpAny_pure ⟨_, rfl, hnone e⟩))
  · exact wpAny_pure ⟨_, rfl, hsome v t' e⟩
theorem b_setitem (hN : NOk w s.heap d) (ho : s.heap.get? d = some (dO T dd es n)) (hE : EK w es c) (hsz : c.length ≤ 1000) {v : Int} {tv : Tok}
    (h : ∀ h' es' n', h'.get? d = some (dO T dd es' n') → EK w es' (cput c u v) → Heap.SameBut d s.heap h' → R .none { s with heap := h', toks := s.toks + 1 }) :
    wpAny (model PP w) A (Builtin.«dict.__setitem__» ⟨[.ref d, .str u t, .int v tv], []⟩) (FinQ R) E s := by
  show wpAny _ _ (Builtin.Dict.notOrdered "__setitem__" ⟨[.ref d, .str u t, .int v tv], []⟩ >>= _) _ _ s
  refine wpAny_bind (hN _ _ _ _ _ _ _ rfl ?_)
  show wpAny _ _ (dictSet d (.str u t) (.int v tv) >>= _) _ _ s
  exact wpAny_bind (d_set ho hE hsz fun h' es' n' a b e => wpAny_pure ⟨_, rfl, h h' es' n' a b e⟩)
theorem b_setdefault (hN : NOk w s.heap d) (hd' : (d == sysModules) = false) (ho : s.heap.get? d = some (dO T dd es n)) (hE : EK w es c) (hsz : c.length ≤ 1000) {v : Int} {tv : Tok}
    (hthere : ∀ v' t', cget c u = some v' → R (.int v' t') { s with toks := s.toks + 1 })
    (hnew : cget c u = none → ∀ h' es' n', h'.get? d = some (dO T dd es' n') → EK w es' (cput c u v) → Heap.SameBut d s.heap h' → R (.int v tv) { s with heap := h', toks := s.toks + 1 }) :
    wpAny (model PP w) A (Builtin.«dict.setdefault» ⟨[.ref d, .str u t, .int v tv], []⟩) (FinQ R) E s := by
  unfold Builtin.«dict.setdefault»
  refine wpAny_bind ?_
  unfold Builtin.Dict.keyAndDefault
  refine wpAny_bind (hN _ _ _ _ _ _ _ rfl ?_)
  show wpAny _ _ (pure (d, Value.str u t, some (Value.int v tv))) _ _ s
  refine wpAny_pure ?_
  show wpAny _ _ (if (d == sysModules) = true then _ else (dictSetDefault d _ _ >>= _)) _ _ s
  rw [if_neg (by rw [hd']; exact Bool.false_ne_true)]
  exact wpAny_bind (d_setdefault ho hE hsz (fun v' t' e => wpAny_pure ⟨_, rfl, hthere v' t' e⟩) fun e h' es' n' a b z => wpAny_pure ⟨_, rfl, hnew e h' es' n' a b z⟩)
theorem b_pop (hN : NOk w s.heap d) (hd' : (d == sysModules) = false) (ho : s.heap.get? d = some (dO T dd es n)) (hE : EK w es c) (hsz : c.length ≤ 1000) {dflt : Value}
    (hnone : cget c u = none → R dflt { s with toks := s.toks + 1 })
    (hsome : ∀ v t', cget c u = some v → ∀ h' es' n', h'.get? d = some (dO T dd es' n') → EK w es' (cdel c u) → Heap.SameBut d s.heap h' → R (.int v t') { s with heap := h', toks := s.toks + 1 }) :
    wpAny (model PP w) A (Builtin.«dict.pop» ⟨[.ref d, .str u t, dflt], []⟩) (FinQ R) E s := by
  unfold Builtin.«dict.pop»
  refine wpAny_bind ?_
  unfold Builtin.Dict.keyAndDefault
  refine wpAny_bind (hN _ _ _ _ _ _ _ rfl ?_)
  show wpAny _ _ (pure (d, Value.str u t, some dflt)) _ _ s
  refine wpAny_pure ?_
  simp only [show (keyPart (.str u t)).isSome = true from rfl, if_true]
  refine wpAny_bind (wpAny_pure ?_)
  simp only [Bool.false_eq_true, if_false]
  refine wpAny_bind (d_takeOut ho hE hsz (fun e => ?_) fun e v hv he h' es' n' a b z => ?_)
  · simp only [Option.isNone_none, if_true]
    refine wpAny_bind (wpAny_missedRemoval_other hd' ?_)
    exact wpAny_bind (wpAny_rule (wpAny_pure ⟨_, rfl, hnone e⟩))
  · simp only [Option.isNone_some, Bool.false_eq_true, if_false]
    obtain ⟨_, _, t', hval⟩ := he
    refine wpAny_bind (wpAny_letGo (wpAny_pure ⟨_, rfl, ?_⟩))
    rw [hval]; exact hsome v t' hv h' es' n' a b z
theorem b_delitem (hN : NOk w s.heap d) (hd' : (d == sysModules) = false) (ho : s.heap.get? d = some (dO T dd es n)) (hE : EK w es c) (hsz : c.length ≤ 1000) (hh : A.handled = none)
    (hnone : cget c u = none → ∀ h' e, Heap.NewExc s.heap h' e "KeyError" → E (.ref e) { s with heap := h', toks := s.toks + 1 })
    (hsome : ∀ v, cget c u = some v → ∀ h' es' n', h'.get? d = some (dO T dd es' n') → EK w es' (cdel c u) → Heap.SameBut d s.heap h' → R .none { s with heap := h', toks := s.toks + 1 }) :
    wpAny (model PP w) A (Builtin.«dict.__delitem__» ⟨[.ref d, .str u t], []⟩) (FinQ R) E s := by
  unfold Builtin.«dict.__delitem__»
  refine wpAny_bind ?_
  unfold Builtin.Dict.dictSlotArgs
  refine wpAny_bind (hN _ _ _ _ _ _ _ rfl ?_)
  show wpAny _ _ (pure (Value.ref d, Value.str u t)) _ _ s
  refine wpAny_pure ?_
  show wpAny _ _ (Builtin.Dict.takeOut d _ >>= _) _ _ s
  refine wpAny_bind (d_takeOut ho hE hsz (fun e => ?_) fun e v hv he h' es' n' a b z => ?_)
  · show wpAny _ _ (Builtin.Dict.missedRemoval d _ >>= _) _ _ _
    refine wpAny_bind (wpAny_missedRemoval_other hd' ?_)
    exact wpAny_bind (wpAny_rule (wpAny_raise_newExc (A := A) plainExc_KeyError hh (hnone e)))
  · exact wpAny_bind (wpAny_letGo (wpAny_pure ⟨_, rfl, hsome v hv h' es' n' a b z⟩))
theorem b_getitem_due (hd' : (d == sysModules) = false) (ho : s.heap.get? d = some (dO (.type "dict") dd es n)) (hE : EK w es c) (hh : A.handled = none)
    (hnone : cget c u = none → ∀ h' e, Heap.NewExc s.heap h' e "KeyError" → E (.ref e) { s with heap := h', toks := s.toks + 1 })
    (hsome : ∀ v t', cget c u = some v → R (.int v t') { s with toks := s.toks + 1 }) :
    wpAny (model PP w) A (Builtin.«dict.__getitem__» ⟨[.ref d, .str u t], []⟩) (FinQ R) E s := by
  show wpAny _ _ (dictGet d (.str u t) >>= _) _ _ s
  refine wpAny_bind (d_get ho hE (fun e => ?_) fun v t' e => ?_)
  · show wpAny _ _ (Builtin.Dict.missed d _ >>= _) _ _ _
    refine wpAny_bind (wpAny_missed_other hd' ?_)
    refine wpAny_bind (wpAny_typeOf (s := { s with toks := s.toks + 1 }) ⟨_, ho, rfl⟩ ?_)
    rw [if_neg (by decide)]
    exact wpAny_bind (wpAny_rule (wpAny_raise_newExc (A := A) plainExc_KeyError hh (hnone e)))
  · exact wpAny_pure ⟨_, rfl, hsome v t' e⟩
theorem find_missing (w : World) : findIn (hd.heap_39 w.params) (.ref 163) "__missing__" = some none := by kernel_rfl
theorem b_getitem_told (X : (hd.heap_39 w.params).In s.heap) (hd' : (d == sysModules) = false) {dx : Addr} (ho : s.heap.get? d = some (dO (.ref 163) (some dx) es n)) (hE : EK w es c) (hh : A.handled = none)
    (hnone : cget c u = none → ∀ h' e, Heap.NewExc s.heap h' e "KeyError" → E (.ref e) { s with heap := h', toks := s.toks + 1 })
    (hsome : ∀ v t', cget c u = some v → R (.int v t') { s with toks := s.toks + 1 }) :
    wpAny (model PP w) A (Builtin.«dict.__getitem__» ⟨[.ref d, .str u t], []⟩) (FinQ R) E s := by
  show wpAny _ _ (dictGet d (.str u t) >>= _) _ _ s
  refine wpAny_bind (d_get ho hE (fun e => ?_) fun v t' e => ?_)
  · show wpAny _ _ (Builtin.Dict.missed d _ >>= _) _ _ _
    refine wpAny_bind (wpAny_missed_other hd' ?_)
    have L1 := type_cd (w := w) ho
    have L2 : Looks (model PP w) s.heap (typeLookup (.ref 163) "__missing__") none := looks_findIn X (find_missing w)
    refine wpAny_bind (L1.at ?_)
    rw [if_pos (by decide)]
    unfold callSpecial?
    refine wpAny_bind (wpAny_bind (wpAny_bind (L1.at (L2.at ?_))))
    dsimp only
    refine wpAny_pure ?_
    dsimp only
    exact wpAny_bind (wpAny_rule (wpAny_raise_newExc (A := A) plainExc_KeyError hh (hnone e)))
  · exact wpAny_pure ⟨_, rfl, hsome v t' e⟩
theorem b_popitem (hN : NOk w s.heap d) (hd' : (d == sysModules) = false) (ho : s.heap.get? d = some (dO T dd es n)) (hE : EK w es c) (hsz : c.length ≤ 1000) (hh : A.handled = none)
    (hnone : c = [] → ∀ h' e t', Heap.NewExc s.heap h' e "KeyError" → E (.ref e) { s with heap := h', toks := t' })
    (hsome : ∀ x v t₁ t₂, c.getLast? = some (x, v) → ∀ h' es' n', h'.get? d = some (dO T dd es' n') → EK w es' c.dropLast → Heap.SameBut d s.heap h' →
      R (.ref h'.objs.size) { s with heap := h'.push { cls := .type "tuple", data := .seq #[.str x t₁, .int v t₂] } }) :
    wpAny (model PP w) A (Builtin.«dict.popitem» ⟨[.ref d], []⟩) (FinQ R) E s := by
  have hz : es.toArray.size ≤ sizeLine := by rw [List.size_toArray, hE.length, sizeLine_eq]; omega
  unfold Builtin.«dict.popitem»
  refine wpAny_bind ?_
  unfold Builtin.Dict.noArgs
  refine wpAny_bind (hN _ _ _ _ _ _ _ rfl ?_)
  show wpAny _ _ (pure d) _ _ s
  refine wpAny_pure ?_
  unfold Builtin.Dict.showsAll
  rw [if_neg (by rw [hd']; exact Bool.false_ne_true)]
  refine wpAny_bind (wpAny_pure (wpAny_bind (wpAny_dictEntries ho rfl ?_)))
  cases hl : c.getLast? with
  | none =>
    have hc : c = [] := by simpa using hl
    subst hc
    have he : es = [] := List.eq_nil_of_length_eq_zero (by rw [hE.length]; rfl)
    subst he
    exact wpAny_bind (wpAny_rule (wpAny_raiseErrorWords plainExc_KeyError hh fun h' tk e x => hnone rfl h' e tk x))
  | some p =>
    obtain ⟨x, v⟩ := p
    obtain ⟨e, he, ⟨t₁, hk⟩, _, t₂, hv⟩ := hE.last hl
    have hb : es.toArray.back? = some e := by simpa using he
    rw [hb]
    refine wpAny_bind (wpAny_updateDictKeys (hz := hz) ho rfl ?_ ?_)
    · refine wpAny_bind ?_
      unfold newTuple
      refine wpAny_newObj_type ?_ (by size_fits)
      refine wpAny_pure ⟨_, rfl, ?_⟩
      have := hsome x v t₁ t₂ hl (s.heap.update d (Obj.mapDictKeys fun x => x.pop)) es.dropLast (n + 1) ?_ hE.pop (Heap.SameBut.update ..)
      · rw [hk, hv]; exact this
      · rw [Heap.get?_update_self _ ho (Obj.isFreed_of_dict (Obj.data_mapDictKeys rfl _))]
        simp [Obj.mapDictKeys, dO]
    · simp; omega
end
end Mine
end
section
open PySem PySem.W PyProof.Rows PySem.Calls
set_option maxRecDepth 100000
set_option maxHeartbeats 4000000
theorem Mine.walkResetS5 : True := by w_top off; trivial
namespace Mine
structure MdP (id T gid D : String) : Prop where
  ty : typeOf (.builtin id) = pure (.type D)
  gt : typeLookup (.type D) "__get__" = pure (some (.builtin gid))
  ok : MdOk id T gid
theorem gt_md : typeLookup (.type "method_descriptor") "__get__" = pure (some (.builtin "method_descriptor.__get__")) := by rw [typeLookup_type, builtinLookup_eq_fast]; kernel_rfl
theorem gt_wd : typeLookup (.type "wrapper_descriptor") "__get__" = pure (some (.builtin "wrapper_descriptor.__get__")) := by rw [typeLookup_type, builtinLookup_eq_fast]; kernel_rfl
theorem slot_mdget : Slot "method_descriptor" "__get__" "method_descriptor.__get__" :=
  .of (owner := "method_descriptor") (n := "__get__") gt_md (by decide +kernel) (by decide +kernel) (by decide +kernel) (by first | exact .inl (by decide +kernel) | exact .inr (by decide +kernel)) (by rw [isSubtype_type]; kernel_rfl)
theorem slot_wdget : Slot "wrapper_descriptor" "__get__" "wrapper_descriptor.__get__" :=
  .of (owner := "wrapper_descriptor") (n := "__get__") gt_wd (by decide +kernel) (by decide +kernel) (by decide +kernel) (by first | exact .inl (by decide +kernel) | exact .inr (by decide +kernel)) (by rw [isSubtype_type]; kernel_rfl)
theorem args_mdget (a b c : Value) : argsOk "method_descriptor.__get__" ⟨[a, b, c], []⟩ := by kernel_rfl
theorem args_wdget (a b c : Value) : argsOk "wrapper_descriptor.__get__" ⟨[a, b, c], []⟩ := by kernel_rfl
theorem getQ_push {w : World} {A : Around} {E : Value → Shared → Prop} {h : Heap} {g : Array GenState} {dr : Drawn} {t : Nat} {os : OsState} {x : Addr} {id T : String} :
    wpAny (model PP w) A (newFields T [.builtin id, .ref x] >>= fun v => ret v) (fun fin s' => ∃ v, fin = .done (.ret v) ∧ GetQ h (.builtin id) x v s' g dr os T) E ⟨h, g, dr, t, os⟩ := by
  refine wpAny_bind (wpAny_newObj_type (wpAny_pure ⟨_, rfl, h.objs.size, _, rfl, Heap.get?_push_size _ rfl, ?_, fun b o e => Heap.get?_push_of_some _ e, _, rfl⟩))
  cases e : h.get? h.objs.size with
  | none => rfl
  | some o => exact absurd (Heap.lt_size e) (Nat.lt_irrefl _)
theorem wd_gen {id : String} (ty : typeOf (.builtin id) = pure (.type "wrapper_descriptor")) (h2 : ".".intercalate (id.cutAt '.').dropLast = "dict") : MdOk id "method-wrapper" "wrapper_descriptor.__get__" := by
  intro w A h g dr t os x dx es n E X hx
  refine wpAny_call_entry (b := Builtin.«wrapper_descriptor.__get__») slot_wdget ty (entryFor_of_tree (by kernel_rfl)) ?_ (args_wdget _ _ _)
  unfold Builtin.«wrapper_descriptor.__get__»
  have L := isInst_cd (w := w) (T := "dict") X hx (mro_dict w)
  show wpAny _ _ ((isInstance (.ref x) (.type (".".intercalate (id.cutAt '.').dropLast)) >>= fun b => _) >>= fun _ => _) _ _ _
  rw [h2]
  refine wpAny_bind (wpAny_bind (L _ _ _ _ (fun b o e => e) ?_))
  rw [if_neg (by decide)]
  exact wpAny_pure getQ_push
theorem md_gen {id : String} (ty : typeOf (.builtin id) = pure (.type "method_descriptor")) (h1 : Manifest.toldItsClass.contains id = false) (h2 : ".".intercalate (id.cutAt '.').dropLast = "dict") : MdOk id "builtin_function_or_method" "method_descriptor.__get__" := by
  intro w A h g dr t os x dx es n E X hx
  refine wpAny_call_entry (b := Builtin.«method_descriptor.__get__») slot_mdget ty (entryFor_of_tree (by kernel_rfl)) ?_ (args_mdget _ _ _)
  unfold Builtin.«method_descriptor.__get__»
  have L := isInst_cd (w := w) (T := "dict") X hx (mro_dict w)
  show wpAny _ _ (if Manifest.toldItsClass.contains id = true then _ else _) _ _ _
  rw [if_neg (by rw [h1]; decide)]
  show wpAny _ _ ((isInstance (.ref x) (.type (".".intercalate (id.cutAt '.').dropLast)) >>= fun b => _) >>= fun _ => _) _ _ _
  rw [h2]
  refine wpAny_bind (wpAny_bind (L _ _ _ _ (fun b o e => e) ?_))
  rw [if_neg (by decide)]
  exact wpAny_pure getQ_push
theorem mdp_contains : MdP "dict.__contains__" "builtin_function_or_method" "method_descriptor.__get__" "method_descriptor" :=
  have ty : typeOf (.builtin "dict.__contains__") = pure (.type "method_descriptor") := by kernel_rfl
  ⟨ty, gt_md, md_gen ty (by decide +kernel) (by decide +kernel)⟩
theorem mdp_getitem : MdP "dict.__getitem__" "builtin_function_or_method" "method_descriptor.__get__" "method_descriptor" :=
  have ty : typeOf (.builtin "dict.__getitem__") = pure (.type "method_descriptor") := by kernel_rfl
  ⟨ty, gt_md, md_gen ty (by decide +kernel) (by decide +kernel)⟩
theorem mdp_get : MdP "dict.get" "builtin_function_or_method" "method_descriptor.__get__" "method_descriptor" :=
  have ty : typeOf (.builtin "dict.get") = pure (.type "method_descriptor") := by kernel_rfl
  ⟨ty, gt_md, md_gen ty (by decide +kernel) (by decide +kernel)⟩
theorem mdp_setdefault : MdP "dict.setdefault" "builtin_function_or_method" "method_descriptor.__get__" "method_descriptor" :=
  have ty : typeOf (.builtin "dict.setdefault") = pure (.type "method_descriptor") := by kernel_rfl
  ⟨ty, gt_md, md_gen ty (by decide +kernel) (by decide +kernel)⟩
theorem mdp_pop : MdP "dict.pop" "builtin_function_or_method" "method_descriptor.__get__" "method_descriptor" :=
  have ty : typeOf (.builtin "dict.pop") = pure (.type "method_descriptor") := by kernel_rfl
  ⟨ty, gt_md, md_gen ty (by decide +kernel) (by decide +kernel)⟩
theorem mdp_popitem : MdP "dict.popitem" "builtin_function_or_method" "method_descriptor.__get__" "method_descriptor" :=
  have ty : typeOf (.builtin "dict.popitem") = pure (.type "method_descriptor") := by kernel_rfl
  ⟨ty, gt_md, md_gen ty (by decide +kernel) (by decide +kernel)⟩
theorem mdp_setitem : MdP "dict.__setitem__" "method-wrapper" "wrapper_descriptor.__get__" "wrapper_descriptor" :=
  have ty : typeOf (.builtin "dict.__setitem__") = pure (.type "wrapper_descriptor") := by kernel_rfl
  ⟨ty, gt_wd, wd_gen ty (by decide +kernel)⟩
theorem mdp_delitem : MdP "dict.__delitem__" "method-wrapper" "wrapper_descriptor.__get__" "wrapper_descriptor" :=
  have ty : typeOf (.builtin "dict.__delitem__") = pure (.type "wrapper_descriptor") := by kernel_rfl
  ⟨ty, gt_wd, wd_gen ty (by decide +kernel)⟩
theorem mdp_init : MdP "dict.__init__" "method-wrapper" "wrapper_descriptor.__get__" "wrapper_descriptor" :=
  have ty : typeOf (.builtin "dict.__init__") = pure (.type "wrapper_descriptor") := by kernel_rfl
  ⟨ty, gt_wd, wd_gen ty (by decide +kernel)⟩

section
variable {w : World} {A : Around} {E : Value → Shared → Prop} {s : Shared} {h₀ : Heap} {L : Addr} {m : Str → Option Value} {news : List (Addr × Obj)} {gg : Obj → List (Addr × Obj)} {x dx q : Addr} {es : List DictEntry} {n : Nat} {c : Ents} {u : Str} {t : Tok} {Q : Value → Shared → Prop}
theorem upd_news {h h' : Heap} {o o' : Obj} (N : News h₀ L h news) (U : UpdF x o news gg) (hs : Heap.SameBut x h h') (ge : h'.get? x = some o') : News h₀ L h' (gg o') := by
  obtain ⟨pre, post, e1, e2, p1, p2⟩ := U.split
  rw [e1] at N
  rw [e2]
  exact news_set N p1 p2 hs ge
theorem upd_mem {o : Obj} (U : UpdF x o news gg) : (x, o) ∈ news := by
  obtain ⟨pre, post, e1, e2, p1, p2⟩ := U.split
  rw [e1]; simp
theorem upd_fr {h h' : Heap} {o : Obj} (F : Fr h₀ L h m) (N : News h₀ L h news) (hm : (x, o) ∈ news) (hs : Heap.SameBut x h h') : Fr h₀ L h' m := F.change hs (N _ hm).2.1 (N _ hm).2.2
end
section
variable {w : World} {A : Around} {E : Value → Shared → Prop} {s : Shared} {h₀ : Heap} {L : Addr} {m : Str → Option Value} {news : List (Addr × Obj)} {x dx q : Addr} {es : List DictEntry} {n : Nat}
theorem method_b {so : Addr} {name : Str} {pl : Sem Bool} {id T gid D : String} {Q : Value × List Value → Shared → Prop} (F : Fr h₀ L s.heap m) (X₀ : (hd.heap_39 w.params).In h₀) (N : News h₀ L s.heap news)
    (hso : (so, ks_superObj 163 x 163) ∈ news) (hx : (x, cdObj dx es n) ∈ news) (ho : nsIn (hd.heap_39 w.params) cStatics "thirdparty.any" = some none)
    (hm : ks_superIn (hd.heap_39 w.params) 163 163 name = some (some (.builtin id))) (md : MdP id T gid D) (hn : (name == ("__class__" : Str)) = false)
    (h : ∀ q h' t', Fr h₀ L h' m → News h₀ L h' ((q, bObj T (.builtin id) x) :: news) → (∀ p ∈ news, p.1 ≠ q) → Q (.ref q, []) { s with heap := h', toks := t' }) : wpAny (model PP w) A (getMethod (.ref so) name pl) Q E s := by
  have X : (hd.heap_39 w.params).In s.heap := X₀.keeps F.keep
  obtain ⟨hh, g, d, t, os⟩ := s
  cases hc : clsIn (hd.heap_39 w.params) 163 with
  | none => unfold ks_superIn at hm; rw [hc] at hm; cases hm
  | some cd =>
    unfold ks_superIn at hm
    rw [hc] at hm
    have hxx := (N _ hx).1
    have hxC : x ≠ 163 := by
      rintro rfl
      unfold clsIn at hc
      split at hc
      · rename_i c d cd' sl ho'
        have e := X _ _ ho'
        rw [hxx] at e
        cases e
      · cases hc
    refine getMethod_super_b (N _ hso).1 hxx (looks_opaque X ho) (l₀ := cd.mro) ?_ rfl X hm md.ty md.gt md.ok hxC hn fun q h' t' a b c => ?_
    · exact fun A Q E s k q => wpAny_bind ((looks_clsIn X hc) A _ E s k (wpAny_pure q))
    · obtain ⟨F', N', l'⟩ := news_new F N b a c
      exact h _ _ _ F' N' l'
end
end Mine
end
section
open PySem PySem.W PyProof.Rows PySem.Calls
set_option maxRecDepth 100000
set_option maxHeartbeats 4000000
theorem Mine.walkResetS6 : True := by w_top off; trivial
namespace Mine
theorem sg_contains : (Manifest.sig_dict.lookup "__contains__").isSome = true := by decide +kernel
theorem sq_contains : Manifest.signature? "dict.__contains__" = Manifest.sig_dict.lookup "__contains__" := signature?_of (id := "dict.__contains__") (n := ['_', '_', 's', 'n', 'i', 'a', 't', 'n', 'o', 'c', '_', '_']) (o := ['t', 'c', 'i', 'd']) (by kernel_rfl) PySem.F.owner_dict
theorem bk_contains : builtinKind "dict.__contains__" = some .method := by decide +kernel
theorem va_contains : Manifest.varargsMethods.contains "dict.__contains__" = false := by decide +kernel
theorem ca_contains (x : Addr) (a0 : Value) : Bind.checkArgs "dict.__contains__" { (Manifest.sig_dict.lookup "__contains__").get sg_contains with full := s!"{(Str.ofString "CaselessDict").toString}.{Bind.lastOf "dict.__contains__"}" } ⟨[.ref x, a0], []⟩ = pure () := by kernel_rfl
theorem pl_contains : plainId "dict.__contains__" = true := by decide +kernel
theorem en_contains : entryFor table "dict.__contains__" = some Builtin.«dict.__contains__» := entryFor_of_tree (by kernel_rfl)
theorem sg_getitem : (Manifest.sig_dict.lookup "__getitem__").isSome = true := by decide +kernel
theorem sq_getitem : Manifest.signature? "dict.__getitem__" = Manifest.sig_dict.lookup "__getitem__" := signature?_of (id := "dict.__getitem__") (n := ['_', '_', 'm', 'e', 't', 'i', 't', 'e', 'g', '_', '_']) (o := ['t', 'c', 'i', 'd']) (by kernel_rfl) PySem.F.owner_dict
theorem bk_getitem : builtinKind "dict.__getitem__" = some .method := by decide +kernel
theorem va_getitem : Manifest.varargsMethods.contains "dict.__getitem__" = false := by decide +kernel
theorem ca_getitem (x : Addr) (a0 : Value) : Bind.checkArgs "dict.__getitem__" { (Manifest.sig_dict.lookup "__getitem__").get sg_getitem with full := s!"{(Str.ofString "CaselessDict").toString}.{Bind.lastOf "dict.__getitem__"}" } ⟨[.ref x, a0], []⟩ = pure () := by kernel_rfl
theorem pl_getitem : plainId "dict.__getitem__" = true := by decide +kernel
theorem en_getitem : entryFor table "dict.__getitem__" = some Builtin.«dict.__getitem__» := entryFor_of_tree (by kernel_rfl)
theorem sg_get : (Manifest.sig_dict.lookup "get").isSome = true := by decide +kernel
theorem sq_get : Manifest.signature? "dict.get" = Manifest.sig_dict.lookup "get" := signature?_of (id := "dict.get") (n := ['t', 'e', 'g']) (o := ['t', 'c', 'i', 'd']) (by kernel_rfl) PySem.F.owner_dict
theorem bk_get : builtinKind "dict.get" = some .method := by decide +kernel
theorem va_get : Manifest.varargsMethods.contains "dict.get" = false := by decide +kernel
theorem ca_get (x : Addr) (a0 : Value) (a1 : Value) : Bind.checkArgs "dict.get" { (Manifest.sig_dict.lookup "get").get sg_get with full := s!"{(Str.ofString "CaselessDict").toString}.{Bind.lastOf "dict.get"}" } ⟨[.ref x, a0, a1], []⟩ = pure () := by kernel_rfl
theorem pl_get : plainId "dict.get" = true := by decide +kernel
theorem en_get : entryFor table "dict.get" = some Builtin.«dict.get» := entryFor_of_tree (by kernel_rfl)
theorem sg_setdefault : (Manifest.sig_dict.lookup "setdefault").isSome = true := by decide +kernel
theorem sq_setdefault : Manifest.signature? "dict.setdefault" = Manifest.sig_dict.lookup "setdefault" := signature?_of (id := "dict.setdefault") (n := ['t', 'l', 'u', 'a', 'f', 'e', 'd', 't', 'e', 's']) (o := ['t', 'c', 'i', 'd']) (by kernel_rfl) PySem.F.owner_dict
theorem bk_setdefault : builtinKind "dict.setdefault" = some .method := by decide +kernel
theorem va_setdefault : Manifest.varargsMethods.contains "dict.setdefault" = false := by decide +kernel
theorem ca_setdefault (x : Addr) (a0 : Value) (a1 : Value) : Bind.checkArgs "dict.setdefault" { (Manifest.sig_dict.lookup "setdefault").get sg_setdefault with full := s!"{(Str.ofString "CaselessDict").toString}.{Bind.lastOf "dict.setdefault"}" } ⟨[.ref x, a0, a1], []⟩ = pure () := by kernel_rfl
theorem pl_setdefault : plainId "dict.setdefault" = true := by decide +kernel
theorem en_setdefault : entryFor table "dict.setdefault" = some Builtin.«dict.setdefault» := entryFor_of_tree (by kernel_rfl)
theorem sg_pop : (Manifest.sig_dict.lookup "pop").isSome = true := by decide +kernel
theorem sq_pop : Manifest.signature? "dict.pop" = Manifest.sig_dict.lookup "pop" := signature?_of (id := "dict.pop") (n := ['p', 'o', 'p']) (o := ['t', 'c', 'i', 'd']) (by kernel_rfl) PySem.F.owner_dict
theorem bk_pop : builtinKind "dict.pop" = some .method := by decide +kernel
theorem va_pop : Manifest.varargsMethods.contains "dict.pop" = false := by decide +kernel
theorem ca_pop (x : Addr) (a0 : Value) (a1 : Value) : Bind.checkArgs "dict.pop" { (Manifest.sig_dict.lookup "pop").get sg_pop with full := s!"{(Str.ofString "CaselessDict").toString}.{Bind.lastOf "dict.pop"}" } ⟨[.ref x, a0, a1], []⟩ = pure () := by kernel_rfl
theorem pl_pop : plainId "dict.pop" = true := by decide +kernel
theorem en_pop : entryFor table "dict.pop" = some Builtin.«dict.pop» := entryFor_of_tree (by kernel_rfl)
theorem sg_popitem : (Manifest.sig_dict.lookup "popitem").isSome = true := by decide +kernel
theorem sq_popitem : Manifest.signature? "dict.popitem" = Manifest.sig_dict.lookup "popitem" := signature?_of (id := "dict.popitem") (n := ['m', 'e', 't', 'i', 'p', 'o', 'p']) (o := ['t', 'c', 'i', 'd']) (by kernel_rfl) PySem.F.owner_dict
theorem bk_popitem : builtinKind "dict.popitem" = some .method := by decide +kernel
theorem va_popitem : Manifest.varargsMethods.contains "dict.popitem" = false := by decide +kernel
theorem ca_popitem (x : Addr) : Bind.checkArgs "dict.popitem" { (Manifest.sig_dict.lookup "popitem").get sg_popitem with full := s!"{(Str.ofString "CaselessDict").toString}.{Bind.lastOf "dict.popitem"}" } ⟨[.ref x], []⟩ = pure () := by kernel_rfl
theorem pl_popitem : plainId "dict.popitem" = true := by decide +kernel
theorem en_popitem : entryFor table "dict.popitem" = some Builtin.«dict.popitem» := entryFor_of_tree (by kernel_rfl)
theorem sg_setitem : (Manifest.sig_dict.lookup "__setitem__").isSome = true := by decide +kernel
theorem sq_setitem : Manifest.signature? "dict.__setitem__" = Manifest.sig_dict.lookup "__setitem__" := signature?_of (id := "dict.__setitem__") (n := ['_', '_', 'm', 'e', 't', 'i', 't', 'e', 's', '_', '_']) (o := ['t', 'c', 'i', 'd']) (by kernel_rfl) PySem.F.owner_dict
theorem bk_setitem : builtinKind "dict.__setitem__" = some .slot := by decide +kernel
theorem ca_setitem (x : Addr) (a0 : Value) (a1 : Value) : Bind.checkArgs "dict.__setitem__" ((Manifest.sig_dict.lookup "__setitem__").get sg_setitem) ⟨[.ref x, a0, a1], []⟩ = pure () := by kernel_rfl
theorem pl_setitem : plainId "dict.__setitem__" = true := by decide +kernel
theorem en_setitem : entryFor table "dict.__setitem__" = some Builtin.«dict.__setitem__» := entryFor_of_tree (by kernel_rfl)
theorem sg_delitem : (Manifest.sig_dict.lookup "__delitem__").isSome = true := by decide +kernel
theorem sq_delitem : Manifest.signature? "dict.__delitem__" = Manifest.sig_dict.lookup "__delitem__" := signature?_of (id := "dict.__delitem__") (n := ['_', '_', 'm', 'e', 't', 'i', 'l', 'e', 'd', '_', '_']) (o := ['t', 'c', 'i', 'd']) (by kernel_rfl) PySem.F.owner_dict
theorem bk_delitem : builtinKind "dict.__delitem__" = some .slot := by decide +kernel
theorem ca_delitem (x : Addr) (a0 : Value) : Bind.checkArgs "dict.__delitem__" ((Manifest.sig_dict.lookup "__delitem__").get sg_delitem) ⟨[.ref x, a0], []⟩ = pure () := by kernel_rfl
theorem pl_delitem : plainId "dict.__delitem__" = true := by decide +kernel
theorem en_delitem : entryFor table "dict.__delitem__" = some Builtin.«dict.__delitem__» := entryFor_of_tree (by kernel_rfl)
theorem check_m {lk : Option Manifest.Signature} {w : World} {A : Around} {E : Value → Shared → Prop} {h : Heap} {g : Array GenState} {d : Drawn} {t : Nat} {os : OsState} {x dx : Addr} {es : Array DictEntry} {n : Nat} {id : String} {args : List Value} {Q : Unit → Shared → Prop} (X : (hd.heap_39 w.params).In h) (hx : h.get? x = some { cls := .ref 163, dict := some dx, data := .dict es n, slots := #[] })
    (hq : Manifest.signature? id = lk) (hs : lk.isSome = true) (hk : builtinKind id = some .method) (hv : Manifest.varargsMethods.contains id = false)
    (hargs : Bind.checkArgs id { lk.get hs with full := s!"{(Str.ofString "CaselessDict").toString}.{Bind.lastOf id}" } ⟨.ref x :: args, []⟩ = pure ()) (q : Q () ⟨h, g, d, t, os⟩) :
    wpAny (model PP w) A (checkBoundCall id ⟨.ref x :: args, []⟩) Q E ⟨h, g, d, t, os⟩ := check_bound_m X hx (hq.trans (Option.some_get hs).symm) hk hv hargs q
theorem check_s {lk : Option Manifest.Signature} {w : World} {A : Around} {E : Value → Shared → Prop} {h : Heap} {g : Array GenState} {d : Drawn} {t : Nat} {os : OsState} {x : Addr} {id : String} {args : List Value} {Q : Unit → Shared → Prop}
    (hq : Manifest.signature? id = lk) (hs : lk.isSome = true) (hk : builtinKind id = some .slot)
    (hargs : Bind.checkArgs id (lk.get hs) ⟨.ref x :: args, []⟩ = pure ()) (q : Q () ⟨h, g, d, t, os⟩) :
    wpAny (model PP w) A (checkBoundCall id ⟨.ref x :: args, []⟩) Q E ⟨h, g, d, t, os⟩ := check_bound_s (hq.trans (Option.some_get hs).symm) hk hargs q
section
variable {w : World} {A : Around} {E : Value → Shared → Prop} {s : Shared} {h₀ : Heap} {L : Addr} {m : Str → Option Value} {news : List (Addr × Obj)} {gg : Obj → List (Addr × Obj)} {x dx q : Addr} {es : List DictEntry} {n : Nat} {c : Ents} {u : Str} {t : Tok} {Q : Value → Shared → Prop}
theorem kb_contains (F : Fr h₀ L s.heap m) (X₀ : (hd.heap_39 w.params).In h₀) (N : News h₀ L s.heap news) (hq : (q, bObj "builtin_function_or_method" (.builtin "dict.__contains__") x) ∈ news) (hx : (x, cdObj dx es n) ∈ news) (hE : EK w es c)
    (hxs : (x == sysModules) = false) (h : Q (.bool (cget c u).isSome) { s with toks := s.toks + 1 }) : wpAny (model PP w) A (call (.ref q) [.str u t]) Q E s := by
  obtain ⟨hh, g, d, tk, os⟩ := s
  have X := X₀.keeps F.keep
  have hq1 := (N _ hq).1
  have hx1 := (N _ hx).1
  have hb := b_contains (A := A.in1) (E := E) (R := Q) (t := t) hxs hx1 hE h
  refine call_bound (id := "dict.__contains__") (T := "builtin_function_or_method") (b := Builtin.«dict.__contains__») (args := [.str u t]) (.inl rfl) hq1 ?chk ?pl ?en ?bd
  case chk =>
    intro Q' E' z
    exact check_m (id := "dict.__contains__") (args := [.str u t]) X hx1 sq_contains sg_contains bk_contains va_contains (ca_contains x (.str u t)) z
  case pl => exact pl_contains
  case en => exact en_contains
  case bd => exact hb
theorem kb_getitem (F : Fr h₀ L s.heap m) (X₀ : (hd.heap_39 w.params).In h₀) (N : News h₀ L s.heap news) (hq : (q, bObj "builtin_function_or_method" (.builtin "dict.__getitem__") x) ∈ news) (hx : (x, cdObj dx es n) ∈ news) (hE : EK w es c)
    (hxs : (x == sysModules) = false) (hA : A.handled = none)
    (hnone : cget c u = none → ∀ h' e, Heap.NewExc s.heap h' e "KeyError" → E (.ref e) { s with heap := h', toks := s.toks + 1 })
    (hsome : ∀ v t', cget c u = some v → Q (.int v t') { s with toks := s.toks + 1 }) : wpAny (model PP w) A (call (.ref q) [.str u t]) Q E s := by
  obtain ⟨hh, g, d, tk, os⟩ := s
  have X := X₀.keeps F.keep
  have hq1 := (N _ hq).1
  have hx1 := (N _ hx).1
  have hb := b_getitem_told (A := A.in1) (E := E) (R := Q) (t := t) X hxs hx1 hE hA hnone hsome
  refine call_bound (id := "dict.__getitem__") (T := "builtin_function_or_method") (b := Builtin.«dict.__getitem__») (args := [.str u t]) (.inl rfl) hq1 ?chk ?pl ?en ?bd
  case chk =>
    intro Q' E' z
    exact check_m (id := "dict.__getitem__") (args := [.str u t]) X hx1 sq_getitem sg_getitem bk_getitem va_getitem (ca_getitem x (.str u t)) z
  case pl => exact pl_getitem
  case en => exact en_getitem
  case bd => exact hb
theorem kb_get {dflt : Value} (F : Fr h₀ L s.heap m) (X₀ : (hd.heap_39 w.params).In h₀) (N : News h₀ L s.heap news) (hq : (q, bObj "builtin_function_or_method" (.builtin "dict.get") x) ∈ news) (hx : (x, cdObj dx es n) ∈ news) (hE : EK w es c)
    (hxs : (x == sysModules) = false)
    (hnone : cget c u = none → Q dflt { s with toks := s.toks + 1 }) (hsome : ∀ v t', cget c u = some v → Q (.int v t') { s with toks := s.toks + 1 }) : wpAny (model PP w) A (call (.ref q) [.str u t, dflt]) Q E s := by
  obtain ⟨hh, g, d, tk, os⟩ := s
  have X := X₀.keeps F.keep
  have hq1 := (N _ hq).1
  have hx1 := (N _ hx).1
  have hb := b_get (A := A.in1) (E := E) (R := Q) (t := t) (dflt := dflt) (nok_told X hx1) hxs hx1 hE hnone hsome
  refine call_bound (id := "dict.get") (T := "builtin_function_or_method") (b := Builtin.«dict.get») (args := [.str u t, dflt]) (.inl rfl) hq1 ?chk ?pl ?en ?bd
  case chk =>
    intro Q' E' z
    exact check_m (id := "dict.get") (args := [.str u t, dflt]) X hx1 sq_get sg_get bk_get va_get (ca_get x (.str u t) dflt) z
  case pl => exact pl_get
  case en => exact en_get
  case bd => exact hb
theorem kb_setdefault {v : Int} {tv : Tok} (F : Fr h₀ L s.heap m) (X₀ : (hd.heap_39 w.params).In h₀) (N : News h₀ L s.heap news) (hq : (q, bObj "builtin_function_or_method" (.builtin "dict.setdefault") x) ∈ news) (U : UpdF x (cdObj dx es n) news gg) (hE : EK w es c)
    (hsz : c.length ≤ 1000) (hxs : (x == sysModules) = false)
    (hthere : ∀ v' t', cget c u = some v' → Q (.int v' t') { s with toks := s.toks + 1 })
    (hnew : cget c u = none → ∀ h' es' n', Fr h₀ L h' m → News h₀ L h' (gg (cdObj dx es' n')) → EK w es' (cput c u v) → Q (.int v tv) { s with heap := h', toks := s.toks + 1 }) : wpAny (model PP w) A (call (.ref q) [.str u t, .int v tv]) Q E s := by
  obtain ⟨hh, g, d, tk, os⟩ := s
  have X := X₀.keeps F.keep
  have hx := upd_mem U
  have hq1 := (N _ hq).1
  have hx1 := (N _ hx).1
  have hb := b_setdefault (A := A.in1) (E := E) (R := Q) (t := t) (v := v) (tv := tv) (nok_told X hx1) hxs hx1 hE hsz hthere fun e h' es' n' a b z => hnew e h' es' n' (upd_fr F N hx z) (upd_news N U z a) b
  refine call_bound (id := "dict.setdefault") (T := "builtin_function_or_method") (b := Builtin.«dict.setdefault») (args := [.str u t, .int v tv]) (.inl rfl) hq1 ?chk ?pl ?en ?bd
  case chk =>
    intro Q' E' z
    exact check_m (id := "dict.setdefault") (args := [.str u t, .int v tv]) X hx1 sq_setdefault sg_setdefault bk_setdefault va_setdefault (ca_setdefault x (.str u t) (.int v tv)) z
  case pl => exact pl_setdefault
  case en => exact en_setdefault
  case bd => exact hb
theorem kb_pop {dflt : Value} (F : Fr h₀ L s.heap m) (X₀ : (hd.heap_39 w.params).In h₀) (N : News h₀ L s.heap news) (hq : (q, bObj "builtin_function_or_method" (.builtin "dict.pop") x) ∈ news) (U : UpdF x (cdObj dx es n) news gg) (hE : EK w es c)
    (hsz : c.length ≤ 1000) (hxs : (x == sysModules) = false)
    (hnone : cget c u = none → Q dflt { s with toks := s.toks + 1 })
    (hsome : ∀ v t', cget c u = some v → ∀ h' es' n', Fr h₀ L h' m → News h₀ L h' (gg (cdObj dx es' n')) → EK w es' (cdel c u) → Q (.int v t') { s with heap := h', toks := s.toks + 1 }) : wpAny (model PP w) A (call (.ref q) [.str u t, dflt]) Q E s := by
  obtain ⟨hh, g, d, tk, os⟩ := s
  have X := X₀.keeps F.keep
  have hx := upd_mem U
  have hq1 := (N _ hq).1
  have hx1 := (N _ hx).1
  have hb := b_pop (A := A.in1) (E := E) (R := Q) (t := t) (dflt := dflt) (nok_told X hx1) hxs hx1 hE hsz hnone fun v t' e h' es' n' a b z => hsome v t' e h' es' n' (upd_fr F N hx z) (upd_news N U z a) b
  refine call_bound (id := "dict.pop") (T := "builtin_function_or_method") (b := Builtin.«dict.pop») (args := [.str u t, dflt]) (.inl rfl) hq1 ?chk ?pl ?en ?bd
  case chk =>
    intro Q' E' z
    exact check_m (id := "dict.pop") (args := [.str u t, dflt]) X hx1 sq_pop sg_pop bk_pop va_pop (ca_pop x (.str u t) dflt) z
  case pl => exact pl_pop
  case en => exact en_pop
  case bd => exact hb
theorem kb_popitem (F : Fr h₀ L s.heap m) (X₀ : (hd.heap_39 w.params).In h₀) (N : News h₀ L s.heap news) (hq : (q, bObj "builtin_function_or_method" (.builtin "dict.popitem") x) ∈ news) (U : UpdF x (cdObj dx es n) news gg) (hE : EK w es c)
    (hsz : c.length ≤ 1000) (hxs : (x == sysModules) = false) (hA : A.handled = none)
    (hnone : c = [] → ∀ h' e t', Heap.NewExc s.heap h' e "KeyError" → E (.ref e) { s with heap := h', toks := t' })
    (hsome : ∀ k v t₁ t₂, c.getLast? = some (k, v) → ∀ a h' es' n', Fr h₀ L h' m → News h₀ L h' ((a, { cls := .type "tuple", data := .seq #[.str k t₁, .int v t₂] }) :: gg (cdObj dx es' n')) → EK w es' c.dropLast → Q (.ref a) { s with heap := h' }) : wpAny (model PP w) A (call (.ref q) []) Q E s := by
  obtain ⟨hh, g, d, tk, os⟩ := s
  have X := X₀.keeps F.keep
  have hx := upd_mem U
  have hq1 := (N _ hq).1
  have hx1 := (N _ hx).1
  have hb := b_popitem (A := A.in1) (E := E) (R := Q) (nok_told X hx1) hxs hx1 hE hsz hA hnone fun k v t₁ t₂ e h' es' n' a b z => hsome k v t₁ t₂ e _ _ es' n' ((upd_fr F N hx z).push _) (News.push (upd_fr F N hx z) (upd_news N U z a) _) b
  refine call_bound (id := "dict.popitem") (T := "builtin_function_or_method") (b := Builtin.«dict.popitem») (args := []) (.inl rfl) hq1 ?chk ?pl ?en ?bd
  case chk =>
    intro Q' E' z
    exact check_m (id := "dict.popitem") (args := []) X hx1 sq_popitem sg_popitem bk_popitem va_popitem (ca_popitem x ) z
  case pl => exact pl_popitem
  case en => exact en_popitem
  case bd => exact hb
theorem kb_setitem {v : Int} {tv : Tok} (F : Fr h₀ L s.heap m) (X₀ : (hd.heap_39 w.params).In h₀) (N : News h₀ L s.heap news) (hq : (q, bObj "method-wrapper" (.builtin "dict.__setitem__") x) ∈ news) (U : UpdF x (cdObj dx es n) news gg) (hE : EK w es c)
    (hsz : c.length ≤ 1000)
    (h : ∀ h' es' n', Fr h₀ L h' m → News h₀ L h' (gg (cdObj dx es' n')) → EK w es' (cput c u v) → Q .none { s with heap := h', toks := s.toks + 1 }) : wpAny (model PP w) A (call (.ref q) [.str u t, .int v tv]) Q E s := by
  obtain ⟨hh, g, d, tk, os⟩ := s
  have X := X₀.keeps F.keep
  have hx := upd_mem U
  have hq1 := (N _ hq).1
  have hx1 := (N _ hx).1
  have hb := b_setitem (A := A.in1) (E := E) (R := Q) (t := t) (v := v) (tv := tv) (nok_told X hx1) hx1 hE hsz fun h' es' n' a b z => h h' es' n' (upd_fr F N hx z) (upd_news N U z a) b
  refine call_bound (id := "dict.__setitem__") (T := "method-wrapper") (b := Builtin.«dict.__setitem__») (args := [.str u t, .int v tv]) (.inr rfl) hq1 ?chk ?pl ?en ?bd
  case chk =>
    intro Q' E' z
    exact check_s (id := "dict.__setitem__") (args := [.str u t, .int v tv]) sq_setitem sg_setitem bk_setitem (ca_setitem x (.str u t) (.int v tv)) z
  case pl => exact pl_setitem
  case en => exact en_setitem
  case bd => exact hb
theorem kb_delitem (F : Fr h₀ L s.heap m) (X₀ : (hd.heap_39 w.params).In h₀) (N : News h₀ L s.heap news) (hq : (q, bObj "method-wrapper" (.builtin "dict.__delitem__") x) ∈ news) (U : UpdF x (cdObj dx es n) news gg) (hE : EK w es c)
    (hsz : c.length ≤ 1000) (hxs : (x == sysModules) = false) (hA : A.handled = none)
    (hnone : cget c u = none → ∀ h' e, Heap.NewExc s.heap h' e "KeyError" → E (.ref e) { s with heap := h', toks := s.toks + 1 })
    (hsome : ∀ v, cget c u = some v → ∀ h' es' n', Fr h₀ L h' m → News h₀ L h' (gg (cdObj dx es' n')) → EK w es' (cdel c u) → Q .none { s with heap := h', toks := s.toks + 1 }) : wpAny (model PP w) A (call (.ref q) [.str u t]) Q E s := by
  obtain ⟨hh, g, d, tk, os⟩ := s
  have X := X₀.keeps F.keep
  have hx := upd_mem U
  have hq1 := (N _ hq).1
  have hx1 := (N _ hx).1
  have hb := b_delitem (A := A.in1) (E := E) (R := Q) (t := t) (nok_told X hx1) hxs hx1 hE hsz hA hnone fun v e h' es' n' a b z => hsome v e h' es' n' (upd_fr F N hx z) (upd_news N U z a) b
  refine call_bound (id := "dict.__delitem__") (T := "method-wrapper") (b := Builtin.«dict.__delitem__») (args := [.str u t]) (.inr rfl) hq1 ?chk ?pl ?en ?bd
  case chk =>
    intro Q' E' z
    exact check_s (id := "dict.__delitem__") (args := [.str u t]) sq_delitem sg_delitem bk_delitem (ca_delitem x (.str u t)) z
  case pl => exact pl_delitem
  case en => exact en_delitem
  case bd => exact hb
end
end Mine
end
section
open PySem PySem.W PyProof.Rows PySem.Calls
set_option maxRecDepth 100000
set_option maxHeartbeats 4000000
theorem Mine.walkResetS7 : True := by w_top off; trivial
namespace Mine
theorem inst_cd {h₀ h : Heap} {L x dx : Addr} {news : List (Addr × Obj)} {od : Obj} {es : List DictEntry} {n : Nat} (N : News h₀ L h news) (h1 : (x, cdObj dx es n) ∈ news) (h2 : (dx, od) ∈ news) : InstAt h x (cdObj dx es n) 163 (some od) :=
  ⟨(N _ h1).1, rfl, rfl, (N _ h2).1⟩
def BoundP (q : Addr) (T : String) (f : Value) (x : Addr) (h : Heap) : Prop := h.get? q = some (bObj T f x)
theorem boundP_of {h₀ h : Heap} {L q x : Addr} {T : String} {f : Value} {news : List (Addr × Obj)} (N : News h₀ L h news) (hq : (q, bObj T f x) ∈ news) : BoundP q T f x h := (N _ hq).1
theorem keeps_B {M : Model} {q x : Addr} {T : String} {f : Value} (hT : (Value.type T == Value.type "builtin_function_or_method" || Value.type T == Value.type "method-wrapper") = true) (hT' : (Value.type T != Value.type "method") = true) (h : Heap) (X : BoundP q T f x h) :
    ∃ k, (k = Keeper.frame ∨ k = Keeper.machine ∨ k = Keeper.boundFrame) ∧ Looks M h (keeperOf (.ref q)) k := by
  refine ⟨.machine, .inr (.inl rfl), (Looks.ld (part := none) X).andThen ?_⟩
  dsimp only
  rw [if_pos hT', if_pos hT]
  exact .now
theorem callWith_B {M : Model} {A : Around} {E : Value → Shared → Prop} {s : Shared} {env : Env} {pos : Pos} {q x : Addr} {T : String} {f : Value} {first : List Value} {Q : Value → Shared → Prop} {h₀ : Heap} {L : Addr} {news : List (Addr × Obj)} {e : PySem.Expr} {rest : List PySem.Expr}
    (_N : News h₀ L s.heap news) (_q : (q, bObj T f x) ∈ news) (hT : (Value.type T == Value.type "builtin_function_or_method" || Value.type T == Value.type "method-wrapper") = true) (hT' : (Value.type T != Value.type "method") = true)
    (h : wpAny M A (spliced (backTo pos (starEach (e :: rest) env))) (fun vs s₁ => BoundP q T f x s₁.heap ∧ wpAny M A (call (.ref q) (first ++ vs)) Q E s₁) E s)
    (he : starEach (e :: rest) env = (false, eval e env) :: starEach rest env := by rfl) (hplain : (backTo pos (starEach rest env)).any (·.1) = false := by rfl) :
    wpAny M A (callWith pos (.ref q) first (backTo pos (starEach (e :: rest) env)) []) Q E s := by
  rw [he] at h ⊢
  exact callWith_of (by show ((false || (backTo pos (starEach rest env)).any (·.1)) || false) = false; rw [hplain]; rfl) (keeps_B hT hT') (evalArgs_plain h)
theorem callWith_B0 {M : Model} {A : Around} {E : Value → Shared → Prop} {s : Shared} {env : Env} {pos : Pos} {q x : Addr} {T : String} {f : Value} {first : List Value} {Q : Value → Shared → Prop} {h₀ : Heap} {L : Addr} {news : List (Addr × Obj)}
    (N : News h₀ L s.heap news) (hq : (q, bObj T f x) ∈ news) (hT : (Value.type T == Value.type "builtin_function_or_method" || Value.type T == Value.type "method-wrapper") = true) (hT' : (Value.type T != Value.type "method") = true)
    (h : wpAny M A (call (.ref q) (first ++ [])) Q E s) : wpAny M A (callWith pos (.ref q) first (backTo pos (starEach [] env)) []) Q E s :=
  callWith_of rfl (keeps_B hT hT') (evalArgs_nil3 ⟨boundP_of N hq, h⟩)
theorem news_sub {h₀ h : Heap} {L : Addr} {l l' : List (Addr × Obj)} (N : News h₀ L h l) (hs : ∀ p ∈ l', p ∈ l) : News h₀ L h l' := fun p hp => N p (hs p hp)
noncomputable def AllNe (d : Addr) : List (Addr × Obj) → Prop
  | [] => True
  | p :: r => (@Ne Nat p.1 d) ∧ AllNe d r
theorem allNe_of {d : Addr} : ∀ {l : List (Addr × Obj)}, (∀ p ∈ l, p.1 ≠ d) → AllNe d l
  | [], _ => trivial
  | p :: _, h => ⟨h p (.head _), allNe_of fun q hq => h q (.tail _ hq)⟩
theorem n_drop23 {h₀ h : Heap} {L : Addr} {a b c : Addr × Obj} {l : List (Addr × Obj)} (N : News h₀ L h (a :: b :: c :: l)) : News h₀ L h (a :: l) := news_sub N fun p hp => by
  rcases List.mem_cons.mp hp with rfl | hp
  · exact .head _
  · exact .tail _ (.tail _ (.tail _ hp))
def offOf (x : Addr) (l : List (Addr × Obj)) : List (Addr × Obj) := l.filter fun p => !(p.1 == x)
theorem off_ne {x : Addr} {l : List (Addr × Obj)} : ∀ p ∈ offOf x l, p.1 ≠ x := fun p hp e => by
  have := (List.mem_filter.mp hp).2
  simp [e] at this
theorem frontN {h₀ h : Heap} {L x dx : Addr} {o od : Obj} {news : List (Addr × Obj)} {gg : Obj → List (Addr × Obj)} (U : UpdF x o news gg) (hm : (dx, od) ∈ news) (N : News h₀ L h news) : News h₀ L h ((x, o) :: (dx, od) :: offOf x news) := news_sub N fun p hp => by
  rcases List.mem_cons.mp hp with rfl | hp
  · exact upd_mem U
  · rcases List.mem_cons.mp hp with rfl | hp
    · exact hm
    · exact (List.mem_filter.mp hp).1
theorem back_mem {x dx : Addr} {o o' od : Obj} {news : List (Addr × Obj)} {gg : Obj → List (Addr × Obj)} (U : UpdF x o news gg) : ∀ p ∈ gg o', p ∈ ((x, o') :: (dx, od) :: offOf x news) := by
  obtain ⟨pre, post, e1, e2, p1, p2⟩ := U.split
  intro p hp
  rw [e2] at hp
  have go : ∀ (hp : p ∈ news) (hx : p.1 ≠ x), p ∈ ((x, o') :: (dx, od) :: offOf x news) := fun hp hx => .tail _ (.tail _ (List.mem_filter.mpr ⟨hp, by simpa using hx⟩))
  rcases List.mem_append.mp hp with hp | hp
  · exact go (by rw [e1]; exact List.mem_append_left _ hp) (p1 p hp)
  · rcases List.mem_cons.mp hp with rfl | hp
    · exact .head _
    · exact go (by rw [e1]; exact List.mem_append_right _ (.tail _ hp)) (p2 p hp)
theorem upd_same {x : Addr} {o : Obj} {news : List (Addr × Obj)} {gg : Obj → List (Addr × Obj)} (U : UpdF x o news gg) : gg o = news := by
  obtain ⟨pre, post, e1, e2, _, _⟩ := U.split
  rw [e1, e2]
theorem raised_sub {base h : Heap} {l : List Env} {e : Addr} {cls : Value} {n n' : List (Addr × Obj)} (R : RaisedN base l e cls n h) (hs : ∀ p ∈ n', p ∈ n) : RaisedN base l e cls n' h := let ⟨B, a0, a, b, c⟩ := R; ⟨B, a0, a, fun q hq => b q (hs q hq), c⟩
theorem backN {h₀ h : Heap} {L x dx : Addr} {o o' od : Obj} {news : List (Addr × Obj)} {gg : Obj → List (Addr × Obj)} (U : UpdF x o news gg) (N : News h₀ L h ((x, o') :: (dx, od) :: offOf x news)) : News h₀ L h (gg o') := news_sub N (back_mem U)
theorem backS {h₀ h : Heap} {L x dx : Addr} {o od : Obj} {news : List (Addr × Obj)} {gg : Obj → List (Addr × Obj)} (U : UpdF x o news gg) (N : News h₀ L h ((x, o) :: (dx, od) :: offOf x news)) : News h₀ L h news := upd_same U ▸ backN U N
theorem backC {h₀ h : Heap} {L x dx : Addr} {o o' od : Obj} {q : Addr × Obj} {news : List (Addr × Obj)} {gg : Obj → List (Addr × Obj)} (U : UpdF x o news gg) (N : News h₀ L h (q :: (x, o') :: (dx, od) :: offOf x news)) : News h₀ L h (q :: gg o') := news_sub N fun p hp => by
  rcases List.mem_cons.mp hp with rfl | hp
  · exact .head _
  · exact .tail _ (back_mem U p hp)
theorem backR {base h : Heap} {l : List Env} {e : Addr} {cls : Value} {x dx : Addr} {o od : Obj} {news : List (Addr × Obj)} {gg : Obj → List (Addr × Obj)} (U : UpdF x o news gg) (R : RaisedN base l e cls ((x, o) :: (dx, od) :: offOf x news) h) : RaisedN base l e cls news h := raised_sub R fun p hp => by
  rw [← upd_same U] at hp; exact back_mem U p hp
section
variable {M : Model} {A : Around} {E : Value → Shared → Prop} {s' : Shared} {base g g₂ h : Heap} {outer : List Env} {env : Env} {L e : Addr} {m : Str → Option Value} {Q : Unit → Shared → Prop} {news : List (Addr × Obj)}
/-- an exception made in this activation leaves it, whatever cells the activation has -/
theorem leave_newX {cls : String} (hf : env.frame = some L) (hk : env.scope.kind = .function) (K : Below A base outer g) (hx : Heap.NewExc h s'.heap e cls) (F : Fr g L h m) (N : News g L h news)
    (hQ : ∀ h', RaisedN base outer e (.type cls) news h' → g.UpToSlots h' → Q () { s' with heap := h' }) :
    wpAny M (A.deeper env) (leaving env (.ref e)) Q E s' := by
  have K' := pushX K F hf hk
  let fr := (env :: outer).filterMap (·.frame)
  have inFr : ∀ v ∈ (env :: outer), ∀ b, v.frame = some b → b ∈ fr := fun v hv b hb => List.mem_filterMap.mpr ⟨v, hv, hb⟩
  have st : base.StaysIn (hideAll h fr) := by
    intro b o q
    refine hideAll_get _ (K'.stays b o q) fun hm => ?_
    rw [(K'.frames.mem hm).1] at q; cases q
  have hl : ∀ q ∈ news, (hideAll h fr).get? q.1 = some q.2 ∧ base.get? q.1 = none := by
    intro q hq
    refine ⟨hideAll_get _ (N q hq).1 fun hm => ?_, fresh_of_stays K.stays (N q hq).2.2⟩
    obtain ⟨v, hv, hvf⟩ := List.mem_filterMap.mp hm
    rcases List.mem_cons.mp hv with rfl | hv
    · exact (N q hq).2.1 (Option.some.inj (hf.symm.trans hvf)).symm
    · obtain ⟨o, ho, _⟩ := (K.frames.mem (List.mem_filterMap.mpr ⟨v, hv, hvf⟩)).2
      rw [(N q hq).2.2] at ho; cases ho
  obtain ⟨ob, tp, he, hcls, hd⟩ := hx.there
  have hen : (hideAll h fr).get? e = none := by
    cases q : (hideAll h fr).get? e with
    | none => rfl
    | some o => have := of_hideAll _ q; rw [hx.new] at this; cases this
  refine wpAny_leaving_firstW (a0 := tp) K'.stack ((funFrames_hide K'.frames inFr).of_keeps fun b o hb _ => ⟨o, hx.keeps b o hb, rfl⟩) hf he (fun b o hb => hx.keeps b o (of_hideAll _ hb)) hen hd rfl rfl fun h' hL => ?_
  obtain ⟨k1, ⟨_, _, k2⟩, k3, k4⟩ := hL
  exact hQ h' ⟨_, tp, st, hl, k1, hen, k2, by rw [← hcls]; exact k3⟩ (((Heap.UpToSlots.of_keeps F.keep).trans (Heap.UpToSlots.of_keeps hx.keeps)).trans k4)
theorem leave_onX {cls : Value} (hf : env.frame = some L) (K : Below A base outer g) (F : Fr g L g₂ m) (R : RaisedN base (env :: outer) e cls news s'.heap) (hsm : g₂.UpToSlots s'.heap)
    (hQ : ∀ h', RaisedN base outer e cls news h' → g.UpToSlots h' → Q () { s' with heap := h' }) :
    wpAny M (A.deeper env) (leaving env (.ref e)) Q E s' := by
  obtain ⟨B, a0, hB, hl, hfl⟩ := R
  exact wpAny_leaves_onW (Around.frames_deeper K.stack) hf hfl fun h' x1 x2 => hQ h' ⟨B, a0, hB, hl, x1⟩ ((Heap.UpToSlots.of_keeps F.keep).trans (hsm.trans x2))
end
end Mine
end
section
open PySem PySem.W PyProof.Rows PySem.Calls
set_option maxRecDepth 100000
set_option maxHeartbeats 8000000
theorem Mine.walkResetS8 : True := by w_top off; trivial
namespace Mine
local macro_rules | `(tactic| k_inst) => `(tactic| (refine' inst_cd ?N ?h1 ?h2; (case N => k_asm); (case h1 => k_mem); (case h2 => k_mem)))
local macro_rules | `(tactic| k_room) => `(tactic| ((try simp only [depth_mark, depth_under_make, depth_under_kw, depth_in1, depth_deeper, depth_caller]); (try simp only [Around.deeper]); omega))
local macro_rules | `(tactic| k_all) => `(tactic| assumption)
local macro_rules | `(tactic| walk_at "wpAt") => `(tactic| (ks_step "eval Call"; (refine at_MethodCall ?_ ?hfo ?hli); (case hfo => first | rfl | kernel_rfl); (case hli => first | rfl | kernel_rfl)))
local macro_rules | `(tactic| walk_at "wpAt") => `(tactic| (ks_step "exec Expr"; (refine ks_wpAt_Expr_any ?_ ?hint ?hsw); (case hint => first | rfl | kernel_rfl); (case hsw => first | rfl | kernel_rfl)))
local macro_rules | `(tactic| walk_at "getMethod ref") => `(tactic| (k_here; k_dflt (refine' method_b ?F ?X ?N ?so ?hx ?ho ?hm ?md ?hn ?_; (case F => k_asm); (case X => k_asm); (case N => k_asm); (case so => k_mem); (case hx => k_mem); (case ho => k_is); (case hm => ks_is); (case md => first | exact mdp_contains | exact mdp_getitem | exact mdp_get | exact mdp_setdefault | exact mdp_pop | exact mdp_popitem | exact mdp_setitem | exact mdp_delitem | exact mdp_init); (case hn => decide); intro q' h' t' F' N' l1; (replace l1 := allNe_of l1; simp only [AllNe, and_true] at l1))))
local macro_rules | `(tactic| walk_at "callWith ref") => `(tactic| (k_here; (try dsimp only); k_dflt (first
  | ((with_reducible show wpAny _ _ (callWith _ _ _ (backTo _ (starEach (_ :: _) _)) _) _ _ _); refine' callWith_B ?k1 ?k2 ?k3 ?k4 ?_; (case k1 => k_asm); (case k2 => k_mem); (case k3 => decide); (case k4 => decide))
  | ((with_reducible show wpAny _ _ (callWith _ _ _ (backTo _ (starEach [] _)) _) _ _ _); refine' callWith_B0 ?k1 ?k2 ?k3 ?k4 ?_; (case k1 => k_asm); (case k2 => k_mem); (case k3 => decide); (case k4 => decide); try dsimp only [List.nil_append, List.cons_append]))))
local macro_rules | `(tactic| k_ne) => `(tactic| (refine neN ?_; (try dsimp only); first | with_reducible assumption | with_reducible exact Ne.symm (by assumption) | with_reducible exact Nat.ne_of_lt (by assumption) | with_reducible exact Nat.ne_of_gt (by assumption)))
local macro_rules | `(tactic| k_in) => `(tactic| first | with_reducible assumption | with_reducible exact Frag.In.keeps (by assumption) (Fr.keep (by assumption)))
local macro_rules | `(tactic| walk_at "callWith ref") => `(tactic| (k_here; k_dflt (first
  | ((with_reducible show wpAny _ _ (callWith _ _ _ (backTo _ (starEach (_ :: _) _)) _) _ _ _); refine' callWith_K ?k1 ?k2 ?_; (case k1 => k_asm); (case k2 => k_is); k_whole)
  | ((with_reducible show wpAny _ _ (callWith _ _ _ (backTo _ (starEach [] _)) _) _ _ _); refine' callWith_K0 ?k1 ?k2 ?_; (case k1 => k_in); (case k2 => k_is); k_whole))))
local macro_rules | `(tactic| walk_at "eval Name") => `(tactic| (k_here; (fail_if_success (with_reducible show wpAny _ _ (eval (Expr.Name _ _) (compEnvC _ _ _ _)) _ _ _)); k_dflt (first
  | (refine' nameX_L ?F ?v ?_ ?a ?b; (case F => k_asm); (case a => rfl); (case b => rfl); (case v => rfl); k_whole)
  | (refine' nameX_C ?N ?c ?m ?d ?_ ?a ?b; (case a => rfl); (case b => rfl); (case N => k_asm); (case c => rfl); (case m => k_mem); (case d => k_asm); k_whole)
  | (refine' nameX_K ?F ?X ?T ?e ?_ ?a ?b; (case F => k_asm); (case X => k_asm); (case T => k_asm); (case a => rfl); (case b => rfl); (case e => k_is); k_whole)
  | (refine' nameX_B ?F ?X ?T ?e ?v ?n ?_ ?a ?b; (case F => k_asm); (case X => k_asm); (case T => k_asm); (case a => rfl); (case b => rfl); (case e => k_is); (case v => boot_fast); (case n => decide); k_whole))))
local macro_rules | `(tactic| walk_at "call ref") => `(tactic| (k_here; k_dflt (first
  | (refine' kb_contains ?F ?X ?N ?q ?x ?E ?s ?_; (case F => k_asm); (case X => k_asm); (case N => k_asm); (case q => k_mem); (case x => k_mem); (case E => assumption); (case s => assumption))
  | (refine' kb_getitem ?F ?X ?N ?q ?x ?E ?s ?hA ?_ ?_; (case F => k_asm); (case X => k_asm); (case N => k_asm); (case q => k_mem); (case x => k_mem); (case E => assumption); (case s => assumption); (case hA => exact rfl); rotate_left; (intro v' t' e'); rotate_left; (intro e' h' x' hx'))
  | (refine' kb_get ?F ?X ?N ?q ?x ?E ?s ?_ ?_; (case F => k_asm); (case X => k_asm); (case N => k_asm); (case q => k_mem); (case x => k_mem); (case E => assumption); (case s => assumption); rotate_left; (intro v' t' e'); rotate_left; (intro e'))
  | (refine' kb_setdefault ?F ?X ?N ?q ?U ?E ?z ?s ?_ ?_; (case F => k_asm); (case X => k_asm); (case N => k_asm); (case q => k_mem); (case U => k_updF); (case E => assumption); (case z => assumption); (case s => assumption); rotate_left; (intro e' h' es' n' F' N' hE'; try dsimp only at N'); rotate_left; (intro v' t' e'))
  | (refine' kb_pop ?F ?X ?N ?q ?U ?E ?z ?s ?_ ?_; (case F => k_asm); (case X => k_asm); (case N => k_asm); (case q => k_mem); (case U => k_updF); (case E => assumption); (case z => assumption); (case s => assumption); rotate_left; (intro v' t' e' h' es' n' F' N' hE'; try dsimp only at N'); rotate_left; (intro e'))
  | (refine' kb_popitem ?F ?X ?N ?q ?U ?E ?z ?s ?hA ?_ ?_; (case F => k_asm); (case X => k_asm); (case N => k_asm); (case q => k_mem); (case U => k_updF); (case E => assumption); (case z => assumption); (case s => assumption); (case hA => exact rfl); rotate_left; (intro y' v' t1' t2' e' a' h' es' n' F' N' hE'; try dsimp only at N'); rotate_left; (intro e' h' x' t' hx'))
  | (refine' kb_setitem ?F ?X ?N ?q ?U ?E ?z ?_; (case F => k_asm); (case X => k_asm); (case N => k_asm); (case q => k_mem); (case U => k_updF); (case E => assumption); (case z => assumption); (intro h' es' n' F' N' hE'; try dsimp only at N'))
  | (refine' kb_delitem ?F ?X ?N ?q ?U ?E ?z ?s ?hA ?_ ?_; (case F => k_asm); (case X => k_asm); (case N => k_asm); (case q => k_mem); (case U => k_updF); (case E => assumption); (case z => assumption); (case s => assumption); (case hA => exact rfl); rotate_left; (intro v' e' h' es' n' F' N' hE'; try dsimp only at N'); rotate_left; (intro e' h' x' hx')))))
local macro_rules | `(tactic| walk_at "And") => `(tactic| ((with_reducible show BoundP _ _ _ _ _ ∧ _); refine ⟨boundP_of (by k_asm) (by k_mem), ?_⟩; try dsimp only [List.nil_append, List.cons_append]))
local macro_rules | `(tactic| walk_at "call builtin:str.upper") => `(tactic| (k_here; (show wpAny _ _ (call (Value.builtin "str.upper") [Value.str _ _]) _ _ _); (refine KXw.upper (by assumption) (by assumption) ?_); intro t' k'))
local macro_rules | `(tactic| walk_at "leaving ref") => `(tactic| (k_here; first
  | (refine' leave_newX ?k5 ?k6 ?k1 ?k0 ?k2 ?k3 ?_; (case k0 => assumption); (case k1 => assumption); (case k2 => assumption); (case k3 => k_asm); (case k5 => exact rfl); (case k6 => exact rfl); k_whole; intro h' R' U'; (try dsimp only at R' U' ⊢))
  | (refine' leave_onX ?k5 ?k1 ?k2 ?k3 ?k4 ?_; (case k3 => assumption); (case k1 => assumption); (case k4 => assumption); (case k2 => assumption); (case k5 => exact rfl); k_whole; intro h' R' U'; (try dsimp only at R' U' ⊢))))

local macro_rules | `(tactic| walk_at "my_sub") => `(tactic| (intro p hp; first | exact hp | exact .tail _ hp | exact .tail _ (.tail _ hp) | exact .tail _ (.tail _ (.tail _ hp)) | exact .tail _ (.tail _ (.tail _ (.tail _ hp))) | exact .tail _ (.tail _ (.tail _ (.tail _ (.tail _ hp))))))
local macro_rules | `(tactic| walk_at "my_sub2") => `(tactic| (intro p hp; rcases List.mem_cons.mp hp with rfl | hp; (exact List.Mem.head _); (apply List.Mem.tail; revert hp; revert p; walk_at "my_sub")))

theorem c_has_key {w : World} {A₀ : Around} {base h₀ : Heap} {outer : List Env} {env : Env} {d u : Nat} {gs : Option (List Code)} {L : Addr} {m mg mb : Str → Option Value} {s : Shared} {p : Program} {loose : List Str} {mean : ExcName → Option Value}
    {told dx : Addr} {es : List DictEntry} {n : Nat} {od : Obj} {c : Ents} {rest : List (Addr × Obj)} {Q : Value → Shared → Prop} {E : Value → Shared → Prop} {x ux : Str} {t : Tok} 
    (hcr : d + 20 < recursionLimit) (hcu : u + 100 < cLine)
    (B : Below A₀ base outer h₀) (F : Fr h₀ L s.heap m) (X₀ : (hd.heap_39 w.params).In h₀) (N : News h₀ L s.heap ((told, cdObj dx es n) :: (dx, od) :: rest)) (T : Top p loose mean mg mb h₀)
    (hf : env.frame = some L) (hk : env.scope.kind = .function) (hr : ∀ p ∈ rest, p.1 ≠ told) (hdx : dx ≠ told) (hE : EK w es c) (hxs : (told == sysModules) = false) (hup : Txt.upper x = ux) (hul : PySem.Builtin.Str.tooLong (Txt.upper x).length = false) 
    (hQ : ∀ h' tk, Fr h₀ L h' m → News h₀ L h' ((told, cdObj dx es n) :: (dx, od) :: rest) → Q (.bool (cget c ux).isSome) { s with heap := h', toks := tk }) :
    wpAny (model PP w) ⟨none, d, some (env :: outer), gs, u⟩ (call (.ref 125) [.ref told, .str x t]) Q E s := by
  have _fill : PySem.Challenge.rw_bl0005_01 = PySem.Challenge.rw_bl0005_01 ∧ hd.heap_39 = hd.heap_39 := by k_fill; exact ⟨rfl, rfl⟩
  refine wpAny_call ?_
  refine' ks_code_super B F X₀ N T rfl hf hk ?k6 ?k7 ?k8 ?k9 ?kB ?_ ?c1 ?c2 ?c3 ?c4
  (case k6 => k_is)
  (case k7 => k_is)
  (case k8 => k_room)
  (case k9 => first | exact BindsTo.of_eq rfl | exact binds_K (X₀.keeps F.keep) rfl (by k_is) rfl rfl rfl)
  (case kB => exact locs rfl)
  (case c1 => decide)
  (case c2 => exact rfl)
  (case c3 => exact rfl)
  (case c4 => exact rfl)
  intro g' L' h' FG' F' N' B' X' T' l1
  (try k_lt l1)
  (try dsimp only)
  (try k_lift B')

  k_steps
  all_goals first
    | exact boundP_of (by k_asm) (by k_mem)
    | exact hQ _ _  (by assumption) (news_sub (by assumption) (by walk_at "my_sub"))

theorem u_has_key {w : World} {A₀ : Around} {base h₀ : Heap} {outer : List Env} {env : Env} {d u : Nat} {gs : Option (List Code)} {L : Addr} {m mg mb : Str → Option Value} {s : Shared} {p : Program} {loose : List Str} {mean : ExcName → Option Value}
    {told dx : Addr} {es : List DictEntry} {n : Nat} {od : Obj} {c : Ents} {news : List (Addr × Obj)} {gg : Obj → List (Addr × Obj)} {Q : Value → Shared → Prop} {E : Value → Shared → Prop} {x ux : Str} {t : Tok} 
    (hcr : d + 20 < recursionLimit) (hcu : u + 100 < cLine)
    (B : Below A₀ base outer h₀) (F : Fr h₀ L s.heap m) (X₀ : (hd.heap_39 w.params).In h₀) (N : News h₀ L s.heap news) (U : UpdF told (cdObj dx es n) news gg) (hm : (dx, od) ∈ news) (T : Top p loose mean mg mb h₀)
    (hf : env.frame = some L) (hk : env.scope.kind = .function) (hdx : dx ≠ told) (hE : EK w es c) (hxs : (told == sysModules) = false) (hup : Txt.upper x = ux) (hul : PySem.Builtin.Str.tooLong (Txt.upper x).length = false) 
    (hQ : ∀ h' tk, Fr h₀ L h' m → News h₀ L h' news → Q (.bool (cget c ux).isSome) { s with heap := h', toks := tk }) :
    wpAny (model PP w) ⟨none, d, some (env :: outer), gs, u⟩ (call (.ref 125) [.ref told, .str x t]) Q E s :=
  c_has_key hcr hcu B F X₀ (frontN U hm N) T hf hk off_ne hdx hE hxs hup hul  (fun h' tk  F' N' => hQ h' tk  F' (backS U N'))

theorem c_contains {w : World} {A₀ : Around} {base h₀ : Heap} {outer : List Env} {env : Env} {d u : Nat} {gs : Option (List Code)} {L : Addr} {m mg mb : Str → Option Value} {s : Shared} {p : Program} {loose : List Str} {mean : ExcName → Option Value}
    {told dx : Addr} {es : List DictEntry} {n : Nat} {od : Obj} {c : Ents} {rest : List (Addr × Obj)} {Q : Value → Shared → Prop} {E : Value → Shared → Prop} {x ux : Str} {t : Tok} 
    (hcr : d + 20 < recursionLimit) (hcu : u + 100 < cLine)
    (B : Below A₀ base outer h₀) (F : Fr h₀ L s.heap m) (X₀ : (hd.heap_39 w.params).In h₀) (N : News h₀ L s.heap ((told, cdObj dx es n) :: (dx, od) :: rest)) (T : Top p loose mean mg mb h₀)
    (hf : env.frame = some L) (hk : env.scope.kind = .function) (hr : ∀ p ∈ rest, p.1 ≠ told) (hdx : dx ≠ told) (hE : EK w es c) (hxs : (told == sysModules) = false) (hup : Txt.upper x = ux) (hul : PySem.Builtin.Str.tooLong (Txt.upper x).length = false) 
    (hQ : ∀ h' tk, Fr h₀ L h' m → News h₀ L h' ((told, cdObj dx es n) :: (dx, od) :: rest) → Q (.bool (cget c ux).isSome) { s with heap := h', toks := tk }) :
    wpAny (model PP w) ⟨none, d, some (env :: outer), gs, u⟩ (call (.ref 82) [.ref told, .str x t]) Q E s := by
  have _fill : PySem.Challenge.rw_bl0005_01 = PySem.Challenge.rw_bl0005_01 ∧ hd.heap_39 = hd.heap_39 := by k_fill; exact ⟨rfl, rfl⟩
  refine wpAny_call ?_
  refine' ks_code_super B F X₀ N T rfl hf hk ?k6 ?k7 ?k8 ?k9 ?kB ?_ ?c1 ?c2 ?c3 ?c4
  (case k6 => k_is)
  (case k7 => k_is)
  (case k8 => k_room)
  (case k9 => first | exact BindsTo.of_eq rfl | exact binds_K (X₀.keeps F.keep) rfl (by k_is) rfl rfl rfl)
  (case kB => exact locs rfl)
  (case c1 => decide)
  (case c2 => exact rfl)
  (case c3 => exact rfl)
  (case c4 => exact rfl)
  intro g' L' h' FG' F' N' B' X' T' l1
  (try k_lt l1)
  (try dsimp only)
  (try k_lift B')

  k_steps
  all_goals first
    | exact boundP_of (by k_asm) (by k_mem)
    | exact hQ _ _  (by assumption) (news_sub (by assumption) (by walk_at "my_sub"))

theorem u_contains {w : World} {A₀ : Around} {base h₀ : Heap} {outer : List Env} {env : Env} {d u : Nat} {gs : Option (List Code)} {L : Addr} {m mg mb : Str → Option Value} {s : Shared} {p : Program} {loose : List Str} {mean : ExcName → Option Value}
    {told dx : Addr} {es : List DictEntry} {n : Nat} {od : Obj} {c : Ents} {news : List (Addr × Obj)} {gg : Obj → List (Addr × Obj)} {Q : Value → Shared → Prop} {E : Value → Shared → Prop} {x ux : Str} {t : Tok} 
    (hcr : d + 20 < recursionLimit) (hcu : u + 100 < cLine)
    (B : Below A₀ base outer h₀) (F : Fr h₀ L s.heap m) (X₀ : (hd.heap_39 w.params).In h₀) (N : News h₀ L s.heap news) (U : UpdF told (cdObj dx es n) news gg) (hm : (dx, od) ∈ news) (T : Top p loose mean mg mb h₀)
    (hf : env.frame = some L) (hk : env.scope.kind = .function) (hdx : dx ≠ told) (hE : EK w es c) (hxs : (told == sysModules) = false) (hup : Txt.upper x = ux) (hul : PySem.Builtin.Str.tooLong (Txt.upper x).length = false) 
    (hQ : ∀ h' tk, Fr h₀ L h' m → News h₀ L h' news → Q (.bool (cget c ux).isSome) { s with heap := h', toks := tk }) :
    wpAny (model PP w) ⟨none, d, some (env :: outer), gs, u⟩ (call (.ref 82) [.ref told, .str x t]) Q E s :=
  c_contains hcr hcu B F X₀ (frontN U hm N) T hf hk off_ne hdx hE hxs hup hul  (fun h' tk  F' N' => hQ h' tk  F' (backS U N'))

theorem c_get {w : World} {A₀ : Around} {base h₀ : Heap} {outer : List Env} {env : Env} {d u : Nat} {gs : Option (List Code)} {L : Addr} {m mg mb : Str → Option Value} {s : Shared} {p : Program} {loose : List Str} {mean : ExcName → Option Value}
    {told dx : Addr} {es : List DictEntry} {n : Nat} {od : Obj} {c : Ents} {rest : List (Addr × Obj)} {Q : Value → Shared → Prop} {E : Value → Shared → Prop} {x ux : Str} {t : Tok} {df : Value}
    (hcr : d + 20 < recursionLimit) (hcu : u + 100 < cLine)
    (B : Below A₀ base outer h₀) (F : Fr h₀ L s.heap m) (X₀ : (hd.heap_39 w.params).In h₀) (N : News h₀ L s.heap ((told, cdObj dx es n) :: (dx, od) :: rest)) (T : Top p loose mean mg mb h₀)
    (hf : env.frame = some L) (hk : env.scope.kind = .function) (hr : ∀ p ∈ rest, p.1 ≠ told) (hdx : dx ≠ told) (hE : EK w es c) (hxs : (told == sysModules) = false) (hup : Txt.upper x = ux) (hul : PySem.Builtin.Str.tooLong (Txt.upper x).length = false) 
    (hN : ∀ h' tk, cget c ux = none → Fr h₀ L h' m → News h₀ L h' ((told, cdObj dx es n) :: (dx, od) :: rest) → Q df { s with heap := h', toks := tk })
    (hS : ∀ h' tk v tv, cget c ux = some v → Fr h₀ L h' m → News h₀ L h' ((told, cdObj dx es n) :: (dx, od) :: rest) → Q (.int v tv) { s with heap := h', toks := tk }) :
    wpAny (model PP w) ⟨none, d, some (env :: outer), gs, u⟩ (call (.ref 91) [.ref told, .str x t, df]) Q E s := by
  have _fill : PySem.Challenge.rw_bl0005_01 = PySem.Challenge.rw_bl0005_01 ∧ hd.heap_39 = hd.heap_39 := by k_fill; exact ⟨rfl, rfl⟩
  refine wpAny_call ?_
  refine' ks_code_super B F X₀ N T rfl hf hk ?k6 ?k7 ?k8 ?k9 ?kB ?_ ?c1 ?c2 ?c3 ?c4
  (case k6 => k_is)
  (case k7 => k_is)
  (case k8 => k_room)
  (case k9 => first | exact BindsTo.of_eq rfl | exact binds_K (X₀.keeps F.keep) rfl (by k_is) rfl rfl rfl)
  (case kB => exact locs rfl)
  (case c1 => decide)
  (case c2 => exact rfl)
  (case c3 => exact rfl)
  (case c4 => exact rfl)
  intro g' L' h' FG' F' N' B' X' T' l1
  (try k_lt l1)
  (try dsimp only)
  (try k_lift B')

  k_steps
  all_goals first
    | exact boundP_of (by k_asm) (by k_mem)
    | exact hN _ _ (by assumption) (by assumption) (news_sub (by assumption) (by walk_at "my_sub"))
    | exact hS _ _ _ _ (by assumption) (by assumption) (news_sub (by assumption) (by walk_at "my_sub"))

theorem u_get {w : World} {A₀ : Around} {base h₀ : Heap} {outer : List Env} {env : Env} {d u : Nat} {gs : Option (List Code)} {L : Addr} {m mg mb : Str → Option Value} {s : Shared} {p : Program} {loose : List Str} {mean : ExcName → Option Value}
    {told dx : Addr} {es : List DictEntry} {n : Nat} {od : Obj} {c : Ents} {news : List (Addr × Obj)} {gg : Obj → List (Addr × Obj)} {Q : Value → Shared → Prop} {E : Value → Shared → Prop} {x ux : Str} {t : Tok} {df : Value}
    (hcr : d + 20 < recursionLimit) (hcu : u + 100 < cLine)
    (B : Below A₀ base outer h₀) (F : Fr h₀ L s.heap m) (X₀ : (hd.heap_39 w.params).In h₀) (N : News h₀ L s.heap news) (U : UpdF told (cdObj dx es n) news gg) (hm : (dx, od) ∈ news) (T : Top p loose mean mg mb h₀)
    (hf : env.frame = some L) (hk : env.scope.kind = .function) (hdx : dx ≠ told) (hE : EK w es c) (hxs : (told == sysModules) = false) (hup : Txt.upper x = ux) (hul : PySem.Builtin.Str.tooLong (Txt.upper x).length = false) 
    (hN : ∀ h' tk, cget c ux = none → Fr h₀ L h' m → News h₀ L h' news → Q df { s with heap := h', toks := tk })
    (hS : ∀ h' tk v tv, cget c ux = some v → Fr h₀ L h' m → News h₀ L h' news → Q (.int v tv) { s with heap := h', toks := tk }) :
    wpAny (model PP w) ⟨none, d, some (env :: outer), gs, u⟩ (call (.ref 91) [.ref told, .str x t, df]) Q E s :=
  c_get hcr hcu B F X₀ (frontN U hm N) T hf hk off_ne hdx hE hxs hup hul  (fun h' tk q0 F' N' => hN h' tk q0 F' (backS U N')) (fun h' tk v tv q0 F' N' => hS h' tk v tv q0 F' (backS U N'))

theorem c_getitem {w : World} {A₀ : Around} {base h₀ : Heap} {outer : List Env} {env : Env} {d u : Nat} {gs : Option (List Code)} {L : Addr} {m mg mb : Str → Option Value} {s : Shared} {p : Program} {loose : List Str} {mean : ExcName → Option Value}
    {told dx : Addr} {es : List DictEntry} {n : Nat} {od : Obj} {c : Ents} {rest : List (Addr × Obj)} {Q : Value → Shared → Prop} {E : Value → Shared → Prop} {x ux : Str} {t : Tok} 
    (hcr : d + 20 < recursionLimit) (hcu : u + 100 < cLine)
    (B : Below A₀ base outer h₀) (F : Fr h₀ L s.heap m) (X₀ : (hd.heap_39 w.params).In h₀) (N : News h₀ L s.heap ((told, cdObj dx es n) :: (dx, od) :: rest)) (T : Top p loose mean mg mb h₀)
    (hf : env.frame = some L) (hk : env.scope.kind = .function) (hr : ∀ p ∈ rest, p.1 ≠ told) (hdx : dx ≠ told) (hE : EK w es c) (hxs : (told == sysModules) = false) (hup : Txt.upper x = ux) (hul : PySem.Builtin.Str.tooLong (Txt.upper x).length = false) 
    (hS : ∀ h' tk v tv, cget c ux = some v → Fr h₀ L h' m → News h₀ L h' ((told, cdObj dx es n) :: (dx, od) :: rest) → Q (.int v tv) { s with heap := h', toks := tk })
    (hX : ∀ h' tk e g', cget c ux = none → Fr h₀ L g' m → g'.UpToSlots h' → RaisedN base (env :: outer) e (.type "KeyError") ((told, cdObj dx es n) :: (dx, od) :: rest) h' → E (.ref e) { s with heap := h', toks := tk }) :
    wpAny (model PP w) ⟨none, d, some (env :: outer), gs, u⟩ (call (.ref 58) [.ref told, .str x t]) Q E s := by
  have _fill : PySem.Challenge.rw_bl0005_01 = PySem.Challenge.rw_bl0005_01 ∧ hd.heap_39 = hd.heap_39 := by k_fill; exact ⟨rfl, rfl⟩
  refine wpAny_call ?_
  refine' ks_code_super B F X₀ N T rfl hf hk ?k6 ?k7 ?k8 ?k9 ?kB ?_ ?c1 ?c2 ?c3 ?c4
  (case k6 => k_is)
  (case k7 => k_is)
  (case k8 => k_room)
  (case k9 => first | exact BindsTo.of_eq rfl | exact binds_K (X₀.keeps F.keep) rfl (by k_is) rfl rfl rfl)
  (case kB => exact locs rfl)
  (case c1 => decide)
  (case c2 => exact rfl)
  (case c3 => exact rfl)
  (case c4 => exact rfl)
  intro g' L' h' FG' F' N' B' X' T' l1
  (try k_lt l1)
  (try dsimp only)
  (try k_lift B')

  k_steps
  all_goals first
    | exact boundP_of (by k_asm) (by k_mem)
    | exact hS _ _ _ _ (by assumption) (by assumption) (news_sub (by assumption) (by walk_at "my_sub"))
    | exact hX _ _ _ _ (by assumption) (by assumption) (by assumption) (raised_sub (by assumption) (by walk_at "my_sub"))

theorem u_getitem {w : World} {A₀ : Around} {base h₀ : Heap} {outer : List Env} {env : Env} {d u : Nat} {gs : Option (List Code)} {L : Addr} {m mg mb : Str → Option Value} {s : Shared} {p : Program} {loose : List Str} {mean : ExcName → Option Value}
    {told dx : Addr} {es : List DictEntry} {n : Nat} {od : Obj} {c : Ents} {news : List (Addr × Obj)} {gg : Obj → List (Addr × Obj)} {Q : Value → Shared → Prop} {E : Value → Shared → Prop} {x ux : Str} {t : Tok} 
    (hcr : d + 20 < recursionLimit) (hcu : u + 100 < cLine)
    (B : Below A₀ base outer h₀) (F : Fr h₀ L s.heap m) (X₀ : (hd.heap_39 w.params).In h₀) (N : News h₀ L s.heap news) (U : UpdF told (cdObj dx es n) news gg) (hm : (dx, od) ∈ news) (T : Top p loose mean mg mb h₀)
    (hf : env.frame = some L) (hk : env.scope.kind = .function) (hdx : dx ≠ told) (hE : EK w es c) (hxs : (told == sysModules) = false) (hup : Txt.upper x = ux) (hul : PySem.Builtin.Str.tooLong (Txt.upper x).length = false) 
    (hS : ∀ h' tk v tv, cget c ux = some v → Fr h₀ L h' m → News h₀ L h' news → Q (.int v tv) { s with heap := h', toks := tk })
    (hX : ∀ h' tk e g', cget c ux = none → Fr h₀ L g' m → g'.UpToSlots h' → RaisedN base (env :: outer) e (.type "KeyError") news h' → E (.ref e) { s with heap := h', toks := tk }) :
    wpAny (model PP w) ⟨none, d, some (env :: outer), gs, u⟩ (call (.ref 58) [.ref told, .str x t]) Q E s :=
  c_getitem hcr hcu B F X₀ (frontN U hm N) T hf hk off_ne hdx hE hxs hup hul  (fun h' tk v tv q0 F' N' => hS h' tk v tv q0 F' (backS U N')) (fun h' tk e g' q0 a b r => hX h' tk e g' q0 a b (backR U r))

theorem c_setitem {w : World} {A₀ : Around} {base h₀ : Heap} {outer : List Env} {env : Env} {d u : Nat} {gs : Option (List Code)} {L : Addr} {m mg mb : Str → Option Value} {s : Shared} {p : Program} {loose : List Str} {mean : ExcName → Option Value}
    {told dx : Addr} {es : List DictEntry} {n : Nat} {od : Obj} {c : Ents} {rest : List (Addr × Obj)} {Q : Value → Shared → Prop} {E : Value → Shared → Prop} {x ux : Str} {t : Tok} {v : Int} {tv : Tok}
    (hcr : d + 20 < recursionLimit) (hcu : u + 100 < cLine)
    (B : Below A₀ base outer h₀) (F : Fr h₀ L s.heap m) (X₀ : (hd.heap_39 w.params).In h₀) (N : News h₀ L s.heap ((told, cdObj dx es n) :: (dx, od) :: rest)) (T : Top p loose mean mg mb h₀)
    (hf : env.frame = some L) (hk : env.scope.kind = .function) (hr : ∀ p ∈ rest, p.1 ≠ told) (hdx : dx ≠ told) (hE : EK w es c) (hxs : (told == sysModules) = false) (hup : Txt.upper x = ux) (hul : PySem.Builtin.Str.tooLong (Txt.upper x).length = false) (hsz : c.length ≤ 1000)
    (hS : ∀ h' tk es' n', EK w es' (cput c ux v) → Fr h₀ L h' m → News h₀ L h' ((told, cdObj dx es' n') :: (dx, od) :: rest) → Q .none { s with heap := h', toks := tk }) :
    wpAny (model PP w) ⟨none, d, some (env :: outer), gs, u⟩ (call (.ref 66) [.ref told, .str x t, .int v tv]) Q E s := by
  have _fill : PySem.Challenge.rw_bl0005_01 = PySem.Challenge.rw_bl0005_01 ∧ hd.heap_39 = hd.heap_39 := by k_fill; exact ⟨rfl, rfl⟩
  refine wpAny_call ?_
  refine' ks_code_super B F X₀ N T rfl hf hk ?k6 ?k7 ?k8 ?k9 ?kB ?_ ?c1 ?c2 ?c3 ?c4
  (case k6 => k_is)
  (case k7 => k_is)
  (case k8 => k_room)
  (case k9 => first | exact BindsTo.of_eq rfl | exact binds_K (X₀.keeps F.keep) rfl (by k_is) rfl rfl rfl)
  (case kB => exact locs rfl)
  (case c1 => decide)
  (case c2 => exact rfl)
  (case c3 => exact rfl)
  (case c4 => exact rfl)
  intro g' L' h' FG' F' N' B' X' T' l1
  (try k_lt l1)
  (try dsimp only)
  (try k_lift B')

  k_steps
  all_goals first
    | exact boundP_of (by k_asm) (by k_mem)
    | exact hS _ _ _ _ (by assumption) (by assumption) (news_sub (by assumption) (by walk_at "my_sub"))

theorem u_setitem {w : World} {A₀ : Around} {base h₀ : Heap} {outer : List Env} {env : Env} {d u : Nat} {gs : Option (List Code)} {L : Addr} {m mg mb : Str → Option Value} {s : Shared} {p : Program} {loose : List Str} {mean : ExcName → Option Value}
    {told dx : Addr} {es : List DictEntry} {n : Nat} {od : Obj} {c : Ents} {news : List (Addr × Obj)} {gg : Obj → List (Addr × Obj)} {Q : Value → Shared → Prop} {E : Value → Shared → Prop} {x ux : Str} {t : Tok} {v : Int} {tv : Tok}
    (hcr : d + 20 < recursionLimit) (hcu : u + 100 < cLine)
    (B : Below A₀ base outer h₀) (F : Fr h₀ L s.heap m) (X₀ : (hd.heap_39 w.params).In h₀) (N : News h₀ L s.heap news) (U : UpdF told (cdObj dx es n) news gg) (hm : (dx, od) ∈ news) (T : Top p loose mean mg mb h₀)
    (hf : env.frame = some L) (hk : env.scope.kind = .function) (hdx : dx ≠ told) (hE : EK w es c) (hxs : (told == sysModules) = false) (hup : Txt.upper x = ux) (hul : PySem.Builtin.Str.tooLong (Txt.upper x).length = false) (hsz : c.length ≤ 1000)
    (hS : ∀ h' tk es' n', EK w es' (cput c ux v) → Fr h₀ L h' m → News h₀ L h' (gg (cdObj dx es' n')) → Q .none { s with heap := h', toks := tk }) :
    wpAny (model PP w) ⟨none, d, some (env :: outer), gs, u⟩ (call (.ref 66) [.ref told, .str x t, .int v tv]) Q E s :=
  c_setitem hcr hcu B F X₀ (frontN U hm N) T hf hk off_ne hdx hE hxs hup hul hsz (fun h' tk es' n' q0 F' N' => hS h' tk es' n' q0 F' (backN U N'))

theorem c_delitem {w : World} {A₀ : Around} {base h₀ : Heap} {outer : List Env} {env : Env} {d u : Nat} {gs : Option (List Code)} {L : Addr} {m mg mb : Str → Option Value} {s : Shared} {p : Program} {loose : List Str} {mean : ExcName → Option Value}
    {told dx : Addr} {es : List DictEntry} {n : Nat} {od : Obj} {c : Ents} {rest : List (Addr × Obj)} {Q : Value → Shared → Prop} {E : Value → Shared → Prop} {x ux : Str} {t : Tok} 
    (hcr : d + 20 < recursionLimit) (hcu : u + 100 < cLine)
    (B : Below A₀ base outer h₀) (F : Fr h₀ L s.heap m) (X₀ : (hd.heap_39 w.params).In h₀) (N : News h₀ L s.heap ((told, cdObj dx es n) :: (dx, od) :: rest)) (T : Top p loose mean mg mb h₀)
    (hf : env.frame = some L) (hk : env.scope.kind = .function) (hr : ∀ p ∈ rest, p.1 ≠ told) (hdx : dx ≠ told) (hE : EK w es c) (hxs : (told == sysModules) = false) (hup : Txt.upper x = ux) (hul : PySem.Builtin.Str.tooLong (Txt.upper x).length = false) (hsz : c.length ≤ 1000)
    (hS : ∀ h' tk es' n' v, cget c ux = some v → EK w es' (cdel c ux) → Fr h₀ L h' m → News h₀ L h' ((told, cdObj dx es' n') :: (dx, od) :: rest) → Q .none { s with heap := h', toks := tk })
    (hX : ∀ h' tk e g', cget c ux = none → Fr h₀ L g' m → g'.UpToSlots h' → RaisedN base (env :: outer) e (.type "KeyError") ((told, cdObj dx es n) :: (dx, od) :: rest) h' → E (.ref e) { s with heap := h', toks := tk }) :
    wpAny (model PP w) ⟨none, d, some (env :: outer), gs, u⟩ (call (.ref 74) [.ref told, .str x t]) Q E s := by
  have _fill : PySem.Challenge.rw_bl0005_01 = PySem.Challenge.rw_bl0005_01 ∧ hd.heap_39 = hd.heap_39 := by k_fill; exact ⟨rfl, rfl⟩
  refine wpAny_call ?_
  refine' ks_code_super B F X₀ N T rfl hf hk ?k6 ?k7 ?k8 ?k9 ?kB ?_ ?c1 ?c2 ?c3 ?c4
  (case k6 => k_is)
  (case k7 => k_is)
  (case k8 => k_room)
  (case k9 => first | exact BindsTo.of_eq rfl | exact binds_K (X₀.keeps F.keep) rfl (by k_is) rfl rfl rfl)
  (case kB => exact locs rfl)
  (case c1 => decide)
  (case c2 => exact rfl)
  (case c3 => exact rfl)
  (case c4 => exact rfl)
  intro g' L' h' FG' F' N' B' X' T' l1
  (try k_lt l1)
  (try dsimp only)
  (try k_lift B')

  k_steps
  all_goals first
    | exact boundP_of (by k_asm) (by k_mem)
    | exact hS _ _ _ _ _ (by assumption) (by assumption) (by assumption) (news_sub (by assumption) (by walk_at "my_sub"))
    | exact hX _ _ _ _ (by assumption) (by assumption) (by assumption) (raised_sub (by assumption) (by walk_at "my_sub"))

theorem u_delitem {w : World} {A₀ : Around} {base h₀ : Heap} {outer : List Env} {env : Env} {d u : Nat} {gs : Option (List Code)} {L : Addr} {m mg mb : Str → Option Value} {s : Shared} {p : Program} {loose : List Str} {mean : ExcName → Option Value}
    {told dx : Addr} {es : List DictEntry} {n : Nat} {od : Obj} {c : Ents} {news : List (Addr × Obj)} {gg : Obj → List (Addr × Obj)} {Q : Value → Shared → Prop} {E : Value → Shared → Prop} {x ux : Str} {t : Tok} 
    (hcr : d + 20 < recursionLimit) (hcu : u + 100 < cLine)
    (B : Below A₀ base outer h₀) (F : Fr h₀ L s.heap m) (X₀ : (hd.heap_39 w.params).In h₀) (N : News h₀ L s.heap news) (U : UpdF told (cdObj dx es n) news gg) (hm : (dx, od) ∈ news) (T : Top p loose mean mg mb h₀)
    (hf : env.frame = some L) (hk : env.scope.kind = .function) (hdx : dx ≠ told) (hE : EK w es c) (hxs : (told == sysModules) = false) (hup : Txt.upper x = ux) (hul : PySem.Builtin.Str.tooLong (Txt.upper x).length = false) (hsz : c.length ≤ 1000)
    (hS : ∀ h' tk es' n' v, cget c ux = some v → EK w es' (cdel c ux) → Fr h₀ L h' m → News h₀ L h' (gg (cdObj dx es' n')) → Q .none { s with heap := h', toks := tk })
    (hX : ∀ h' tk e g', cget c ux = none → Fr h₀ L g' m → g'.UpToSlots h' → RaisedN base (env :: outer) e (.type "KeyError") news h' → E (.ref e) { s with heap := h', toks := tk }) :
    wpAny (model PP w) ⟨none, d, some (env :: outer), gs, u⟩ (call (.ref 74) [.ref told, .str x t]) Q E s :=
  c_delitem hcr hcu B F X₀ (frontN U hm N) T hf hk off_ne hdx hE hxs hup hul hsz (fun h' tk es' n' v q0 q1 F' N' => hS h' tk es' n' v q0 q1 F' (backN U N')) (fun h' tk e g' q0 a b r => hX h' tk e g' q0 a b (backR U r))

theorem c_setdefault {w : World} {A₀ : Around} {base h₀ : Heap} {outer : List Env} {env : Env} {d u : Nat} {gs : Option (List Code)} {L : Addr} {m mg mb : Str → Option Value} {s : Shared} {p : Program} {loose : List Str} {mean : ExcName → Option Value}
    {told dx : Addr} {es : List DictEntry} {n : Nat} {od : Obj} {c : Ents} {rest : List (Addr × Obj)} {Q : Value → Shared → Prop} {E : Value → Shared → Prop} {x ux : Str} {t : Tok} {v : Int} {tv : Tok}
    (hcr : d + 20 < recursionLimit) (hcu : u + 100 < cLine)
    (B : Below A₀ base outer h₀) (F : Fr h₀ L s.heap m) (X₀ : (hd.heap_39 w.params).In h₀) (N : News h₀ L s.heap ((told, cdObj dx es n) :: (dx, od) :: rest)) (T : Top p loose mean mg mb h₀)
    (hf : env.frame = some L) (hk : env.scope.kind = .function) (hr : ∀ p ∈ rest, p.1 ≠ told) (hdx : dx ≠ told) (hE : EK w es c) (hxs : (told == sysModules) = false) (hup : Txt.upper x = ux) (hul : PySem.Builtin.Str.tooLong (Txt.upper x).length = false) (hsz : c.length ≤ 1000)
    (hS : ∀ h' tk v' tv', cget c ux = some v' → Fr h₀ L h' m → News h₀ L h' ((told, cdObj dx es n) :: (dx, od) :: rest) → Q (.int v' tv') { s with heap := h', toks := tk })
    (hN : ∀ h' tk es' n', cget c ux = none → EK w es' (cput c ux v) → Fr h₀ L h' m → News h₀ L h' ((told, cdObj dx es' n') :: (dx, od) :: rest) → Q (.int v tv) { s with heap := h', toks := tk }) :
    wpAny (model PP w) ⟨none, d, some (env :: outer), gs, u⟩ (call (.ref 100) [.ref told, .str x t, .int v tv]) Q E s := by
  have _fill : PySem.Challenge.rw_bl0005_01 = PySem.Challenge.rw_bl0005_01 ∧ hd.heap_39 = hd.heap_39 := by k_fill; exact ⟨rfl, rfl⟩
  refine wpAny_call ?_
  refine' ks_code_super B F X₀ N T rfl hf hk ?k6 ?k7 ?k8 ?k9 ?kB ?_ ?c1 ?c2 ?c3 ?c4
  (case k6 => k_is)
  (case k7 => k_is)
  (case k8 => k_room)
  (case k9 => first | exact BindsTo.of_eq rfl | exact binds_K (X₀.keeps F.keep) rfl (by k_is) rfl rfl rfl)
  (case kB => exact locs rfl)
  (case c1 => decide)
  (case c2 => exact rfl)
  (case c3 => exact rfl)
  (case c4 => exact rfl)
  intro g' L' h' FG' F' N' B' X' T' l1
  (try k_lt l1)
  (try dsimp only)
  (try k_lift B')

  k_steps
  all_goals first
    | exact boundP_of (by k_asm) (by k_mem)
    | exact hS _ _ _ _ (by assumption) (by assumption) (news_sub (by assumption) (by walk_at "my_sub"))
    | exact hN _ _ _ _ (by assumption) (by assumption) (by assumption) (news_sub (by assumption) (by walk_at "my_sub"))

theorem u_setdefault {w : World} {A₀ : Around} {base h₀ : Heap} {outer : List Env} {env : Env} {d u : Nat} {gs : Option (List Code)} {L : Addr} {m mg mb : Str → Option Value} {s : Shared} {p : Program} {loose : List Str} {mean : ExcName → Option Value}
    {told dx : Addr} {es : List DictEntry} {n : Nat} {od : Obj} {c : Ents} {news : List (Addr × Obj)} {gg : Obj → List (Addr × Obj)} {Q : Value → Shared → Prop} {E : Value → Shared → Prop} {x ux : Str} {t : Tok} {v : Int} {tv : Tok}
    (hcr : d + 20 < recursionLimit) (hcu : u + 100 < cLine)
    (B : Below A₀ base outer h₀) (F : Fr h₀ L s.heap m) (X₀ : (hd.heap_39 w.params).In h₀) (N : News h₀ L s.heap news) (U : UpdF told (cdObj dx es n) news gg) (hm : (dx, od) ∈ news) (T : Top p loose mean mg mb h₀)
    (hf : env.frame = some L) (hk : env.scope.kind = .function) (hdx : dx ≠ told) (hE : EK w es c) (hxs : (told == sysModules) = false) (hup : Txt.upper x = ux) (hul : PySem.Builtin.Str.tooLong (Txt.upper x).length = false) (hsz : c.length ≤ 1000)
    (hS : ∀ h' tk v' tv', cget c ux = some v' → Fr h₀ L h' m → News h₀ L h' news → Q (.int v' tv') { s with heap := h', toks := tk })
    (hN : ∀ h' tk es' n', cget c ux = none → EK w es' (cput c ux v) → Fr h₀ L h' m → News h₀ L h' (gg (cdObj dx es' n')) → Q (.int v tv) { s with heap := h', toks := tk }) :
    wpAny (model PP w) ⟨none, d, some (env :: outer), gs, u⟩ (call (.ref 100) [.ref told, .str x t, .int v tv]) Q E s :=
  c_setdefault hcr hcu B F X₀ (frontN U hm N) T hf hk off_ne hdx hE hxs hup hul hsz (fun h' tk v' tv' q0 F' N' => hS h' tk v' tv' q0 F' (backS U N')) (fun h' tk es' n' q0 q1 F' N' => hN h' tk es' n' q0 q1 F' (backN U N'))

theorem c_pop {w : World} {A₀ : Around} {base h₀ : Heap} {outer : List Env} {env : Env} {d u : Nat} {gs : Option (List Code)} {L : Addr} {m mg mb : Str → Option Value} {s : Shared} {p : Program} {loose : List Str} {mean : ExcName → Option Value}
    {told dx : Addr} {es : List DictEntry} {n : Nat} {od : Obj} {c : Ents} {rest : List (Addr × Obj)} {Q : Value → Shared → Prop} {E : Value → Shared → Prop} {x ux : Str} {t : Tok} {df : Value}
    (hcr : d + 20 < recursionLimit) (hcu : u + 100 < cLine)
    (B : Below A₀ base outer h₀) (F : Fr h₀ L s.heap m) (X₀ : (hd.heap_39 w.params).In h₀) (N : News h₀ L s.heap ((told, cdObj dx es n) :: (dx, od) :: rest)) (T : Top p loose mean mg mb h₀)
    (hf : env.frame = some L) (hk : env.scope.kind = .function) (hr : ∀ p ∈ rest, p.1 ≠ told) (hdx : dx ≠ told) (hE : EK w es c) (hxs : (told == sysModules) = false) (hup : Txt.upper x = ux) (hul : PySem.Builtin.Str.tooLong (Txt.upper x).length = false) (hsz : c.length ≤ 1000)
    (hN : ∀ h' tk, cget c ux = none → Fr h₀ L h' m → News h₀ L h' ((told, cdObj dx es n) :: (dx, od) :: rest) → Q df { s with heap := h', toks := tk })
    (hS : ∀ h' tk es' n' v tv, cget c ux = some v → EK w es' (cdel c ux) → Fr h₀ L h' m → News h₀ L h' ((told, cdObj dx es' n') :: (dx, od) :: rest) → Q (.int v tv) { s with heap := h', toks := tk }) :
    wpAny (model PP w) ⟨none, d, some (env :: outer), gs, u⟩ (call (.ref 109) [.ref told, .str x t, df]) Q E s := by
  have _fill : PySem.Challenge.rw_bl0005_01 = PySem.Challenge.rw_bl0005_01 ∧ hd.heap_39 = hd.heap_39 := by k_fill; exact ⟨rfl, rfl⟩
  refine wpAny_call ?_
  refine' ks_code_super B F X₀ N T rfl hf hk ?k6 ?k7 ?k8 ?k9 ?kB ?_ ?c1 ?c2 ?c3 ?c4
  (case k6 => k_is)
  (case k7 => k_is)
  (case k8 => k_room)
  (case k9 => first | exact BindsTo.of_eq rfl | exact binds_K (X₀.keeps F.keep) rfl (by k_is) rfl rfl rfl)
  (case kB => exact locs rfl)
  (case c1 => decide)
  (case c2 => exact rfl)
  (case c3 => exact rfl)
  (case c4 => exact rfl)
  intro g' L' h' FG' F' N' B' X' T' l1
  (try k_lt l1)
  (try dsimp only)
  (try k_lift B')

  k_steps
  all_goals first
    | exact boundP_of (by k_asm) (by k_mem)
    | exact hN _ _ (by assumption) (by assumption) (news_sub (by assumption) (by walk_at "my_sub"))
    | exact hS _ _ _ _ _ _ (by assumption) (by assumption) (by assumption) (news_sub (by assumption) (by walk_at "my_sub"))

theorem u_pop {w : World} {A₀ : Around} {base h₀ : Heap} {outer : List Env} {env : Env} {d u : Nat} {gs : Option (List Code)} {L : Addr} {m mg mb : Str → Option Value} {s : Shared} {p : Program} {loose : List Str} {mean : ExcName → Option Value}
    {told dx : Addr} {es : List DictEntry} {n : Nat} {od : Obj} {c : Ents} {news : List (Addr × Obj)} {gg : Obj → List (Addr × Obj)} {Q : Value → Shared → Prop} {E : Value → Shared → Prop} {x ux : Str} {t : Tok} {df : Value}
    (hcr : d + 20 < recursionLimit) (hcu : u + 100 < cLine)
    (B : Below A₀ base outer h₀) (F : Fr h₀ L s.heap m) (X₀ : (hd.heap_39 w.params).In h₀) (N : News h₀ L s.heap news) (U : UpdF told (cdObj dx es n) news gg) (hm : (dx, od) ∈ news) (T : Top p loose mean mg mb h₀)
    (hf : env.frame = some L) (hk : env.scope.kind = .function) (hdx : dx ≠ told) (hE : EK w es c) (hxs : (told == sysModules) = false) (hup : Txt.upper x = ux) (hul : PySem.Builtin.Str.tooLong (Txt.upper x).length = false) (hsz : c.length ≤ 1000)
    (hN : ∀ h' tk, cget c ux = none → Fr h₀ L h' m → News h₀ L h' news → Q df { s with heap := h', toks := tk })
    (hS : ∀ h' tk es' n' v tv, cget c ux = some v → EK w es' (cdel c ux) → Fr h₀ L h' m → News h₀ L h' (gg (cdObj dx es' n')) → Q (.int v tv) { s with heap := h', toks := tk }) :
    wpAny (model PP w) ⟨none, d, some (env :: outer), gs, u⟩ (call (.ref 109) [.ref told, .str x t, df]) Q E s :=
  c_pop hcr hcu B F X₀ (frontN U hm N) T hf hk off_ne hdx hE hxs hup hul hsz (fun h' tk q0 F' N' => hN h' tk q0 F' (backS U N')) (fun h' tk es' n' v tv q0 q1 F' N' => hS h' tk es' n' v tv q0 q1 F' (backN U N'))

theorem c_popitem {w : World} {A₀ : Around} {base h₀ : Heap} {outer : List Env} {env : Env} {d u : Nat} {gs : Option (List Code)} {L : Addr} {m mg mb : Str → Option Value} {s : Shared} {p : Program} {loose : List Str} {mean : ExcName → Option Value}
    {told dx : Addr} {es : List DictEntry} {n : Nat} {od : Obj} {c : Ents} {rest : List (Addr × Obj)} {Q : Value → Shared → Prop} {E : Value → Shared → Prop}  
    (hcr : d + 20 < recursionLimit) (hcu : u + 100 < cLine)
    (B : Below A₀ base outer h₀) (F : Fr h₀ L s.heap m) (X₀ : (hd.heap_39 w.params).In h₀) (N : News h₀ L s.heap ((told, cdObj dx es n) :: (dx, od) :: rest)) (T : Top p loose mean mg mb h₀)
    (hf : env.frame = some L) (hk : env.scope.kind = .function) (hr : ∀ p ∈ rest, p.1 ≠ told) (hdx : dx ≠ told) (hE : EK w es c) (hxs : (told == sysModules) = false)  (hsz : c.length ≤ 1000)
    (hS : ∀ h' tk es' n' k v t₁ t₂ a, c.getLast? = some (k, v) → EK w es' c.dropLast → Fr h₀ L h' m → News h₀ L h' ((a, { cls := .type "tuple", data := .seq #[.str k t₁, .int v t₂] }) :: (told, cdObj dx es' n') :: (dx, od) :: rest) → Q (.ref a) { s with heap := h', toks := tk })
    (hX : ∀ h' tk e g', c = [] → Fr h₀ L g' m → g'.UpToSlots h' → RaisedN base (env :: outer) e (.type "KeyError") ((told, cdObj dx es n) :: (dx, od) :: rest) h' → E (.ref e) { s with heap := h', toks := tk }) :
    wpAny (model PP w) ⟨none, d, some (env :: outer), gs, u⟩ (call (.ref 117) [.ref told]) Q E s := by
  have _fill : PySem.Challenge.rw_bl0005_01 = PySem.Challenge.rw_bl0005_01 ∧ hd.heap_39 = hd.heap_39 := by k_fill; exact ⟨rfl, rfl⟩
  refine wpAny_call ?_
  refine' ks_code_super B F X₀ N T rfl hf hk ?k6 ?k7 ?k8 ?k9 ?kB ?_ ?c1 ?c2 ?c3 ?c4
  (case k6 => k_is)
  (case k7 => k_is)
  (case k8 => k_room)
  (case k9 => first | exact BindsTo.of_eq rfl | exact binds_K (X₀.keeps F.keep) rfl (by k_is) rfl rfl rfl)
  (case kB => exact locs rfl)
  (case c1 => decide)
  (case c2 => exact rfl)
  (case c3 => exact rfl)
  (case c4 => exact rfl)
  intro g' L' h' FG' F' N' B' X' T' l1
  (try k_lt l1)
  (try dsimp only)
  (try k_lift B')

  k_steps
  all_goals first
    | exact boundP_of (by k_asm) (by k_mem)
    | exact hS _ _ _ _ _ _ _ _ _ (by assumption) (by assumption) (by assumption) (n_drop23 (by assumption))
    | exact hX _ _ _ _ (by assumption) (by assumption) (by assumption) (raised_sub (by assumption) (by walk_at "my_sub"))

theorem u_popitem {w : World} {A₀ : Around} {base h₀ : Heap} {outer : List Env} {env : Env} {d u : Nat} {gs : Option (List Code)} {L : Addr} {m mg mb : Str → Option Value} {s : Shared} {p : Program} {loose : List Str} {mean : ExcName → Option Value}
    {told dx : Addr} {es : List DictEntry} {n : Nat} {od : Obj} {c : Ents} {news : List (Addr × Obj)} {gg : Obj → List (Addr × Obj)} {Q : Value → Shared → Prop} {E : Value → Shared → Prop}  
    (hcr : d + 20 < recursionLimit) (hcu : u + 100 < cLine)
    (B : Below A₀ base outer h₀) (F : Fr h₀ L s.heap m) (X₀ : (hd.heap_39 w.params).In h₀) (N : News h₀ L s.heap news) (U : UpdF told (cdObj dx es n) news gg) (hm : (dx, od) ∈ news) (T : Top p loose mean mg mb h₀)
    (hf : env.frame = some L) (hk : env.scope.kind = .function) (hdx : dx ≠ told) (hE : EK w es c) (hxs : (told == sysModules) = false)  (hsz : c.length ≤ 1000)
    (hS : ∀ h' tk es' n' k v t₁ t₂ a, c.getLast? = some (k, v) → EK w es' c.dropLast → Fr h₀ L h' m → News h₀ L h' ((a, { cls := .type "tuple", data := .seq #[.str k t₁, .int v t₂] }) :: gg (cdObj dx es' n')) → Q (.ref a) { s with heap := h', toks := tk })
    (hX : ∀ h' tk e g', c = [] → Fr h₀ L g' m → g'.UpToSlots h' → RaisedN base (env :: outer) e (.type "KeyError") news h' → E (.ref e) { s with heap := h', toks := tk }) :
    wpAny (model PP w) ⟨none, d, some (env :: outer), gs, u⟩ (call (.ref 117) [.ref told]) Q E s :=
  c_popitem hcr hcu B F X₀ (frontN U hm N) T hf hk off_ne hdx hE hxs  hsz (fun h' tk es' n' k v t₁ t₂ a q0 q1 F' N' => hS h' tk es' n' k v t₁ t₂ a q0 q1 F' (backC U N')) (fun h' tk e g' q0 a b r => hX h' tk e g' q0 a b (backR U r))
end Mine
end
section
open PySem PySem.W PyProof.Rows PySem.Calls
set_option maxRecDepth 100000
set_option maxHeartbeats 8000000
theorem Mine.walkResetS9 : True := by w_top off; trivial
namespace Mine
section
variable {w : World} {A : Around} {h : Heap} {g : Array GenState} {dr : Drawn} {t : Nat} {os : OsState} {Q : Value → Shared → Prop} {E : Value → Shared → Prop} {R : Result → Shared → Prop}
theorem call163 (w : World) : specialIn (hd.heap_39 w.params) (.ref 163) "__call__" = some (some (.builtin "type.__call__")) := by kernel_rfl
theorem inst163 (w : World) : instIn (hd.heap_39 w.params) (.ref 163) (.type "type") = some true := by kernel_rfl
theorem init163 (w : World) : findIn (hd.heap_39 w.params) (.ref 163) "__init__" = some (some (.ref 50)) := by kernel_rfl
theorem self163 (w : World) : mroIn (hd.heap_39 w.params) 163 (.ref 163) = some true := by kernel_rfl
theorem fn50 (w : World) : typeIn (hd.heap_39 w.params) (.ref 50) = some (.type "function") := by kernel_rfl

def dmadeIn (K : Frag) (C : Addr) : Bool := match K.lookup C with
  | some ⟨_, _, .cls cd, sl⟩ => (sl.toList[4]?).join == some (.builtin "dict.__new__") && !cd.mro.isEmpty
  | _ => false
theorem dmade163 (w : World) : dmadeIn (hd.heap_39 w.params) 163 = true := by kernel_rfl
theorem obj163 (X : (hd.heap_39 w.params).In h) : ∃ oc od cd sl, h.get? 163 = some ⟨oc, od, .cls cd, sl⟩ ∧ cd.mro.isEmpty = false ∧ clsIn (hd.heap_39 w.params) 163 = some cd ∧ (sl.toList[4]?).join = some (.builtin "dict.__new__") := by
  have e := dmade163 w
  unfold dmadeIn at e
  split at e
  · rename_i oc od cd sl ho
    simp only [Bool.and_eq_true, Bool.not_eq_true', beq_iff_eq] at e
    exact ⟨oc, od, cd, sl, X _ _ ho, e.2, by unfold clsIn; rw [ho], e.1⟩
  · cases e
theorem madeBy163 (X : (hd.heap_39 w.params).In h) : Looks (model PP w) h (Bind.madeBy (.ref 163)) (some "dict.__new__") := by
  obtain ⟨oc, od, cd, sl, hC, e4, hc, e3⟩ := obj163 X
  have hm : Looks (model PP w) h (mroOf (.ref 163)) cd.mro := (looks_clsIn X hc).andThen .now
  obtain ⟨c, l, hl⟩ : ∃ c l, cd.mro = c :: l := by cases q : cd.mro with | nil => rw [q] at e4; cases e4 | cons c l => exact ⟨c, l, rfl⟩
  intro A Q E s k q
  unfold Bind.madeBy
  refine wpAny_bind (hm A _ E s k ?_)
  rw [hl, List.forIn_cons]
  refine wpAny_bind (wpAny_bind (wpAny_bind (wpAny_bind (wpAny_loadPart (k _ _ hC) (wpAny_pure ?_)))))
  dsimp only
  rw [← Array.getElem?_toList, e3]
  exact wpAny_pure (wpAny_pure (wpAny_pure q))
theorem nk : builtinKind "dict.__new__" = some .builtinFn := by decide +kernel
theorem nsp : splitId "dict.__new__" = some ("dict", "__new__") := by decide +kernel
theorem nsg : (Manifest.sig_dict.lookup "__new__").isSome = true := by decide +kernel
theorem sq_nsg : Manifest.signature? "dict.__new__" = Manifest.sig_dict.lookup "__new__" := signature?_of (id := "dict.__new__") (n := ['_', '_', 'w', 'e', 'n', '_', '_']) (o := ['t', 'c', 'i', 'd']) (by kernel_rfl) PySem.F.owner_dict
theorem nargs : Bind.checkArgs "dict.__new__" ((Manifest.sig_dict.lookup "__new__").get nsg) ⟨[.ref 163], []⟩ = pure () := by kernel_rfl
theorem base163 (X : (hd.heap_39 w.params).In h) : Looks (model PP w) h (Bind.staticBase (.ref 163)) (.ref 163) := by
  obtain ⟨oc, od, cd, sl, hC, e4, hc, e3⟩ := obj163 X
  have hm : Looks (model PP w) h (mroOf (.ref 163)) cd.mro := (looks_clsIn X hc).andThen .now
  have made := madeBy163 X
  obtain ⟨c, l, hl⟩ : ∃ c l, cd.mro = c :: l := by cases q : cd.mro with | nil => rw [q] at e4; cases e4 | cons c l => exact ⟨c, l, rfl⟩
  intro A Q E s k q
  unfold Bind.staticBase
  refine wpAny_bind (hm A _ E s k ?_)
  rw [hl, List.forIn_cons]
  exact wpAny_bind (wpAny_bind (wpAny_bind (made A _ E s k (wpAny_pure (wpAny_pure (wpAny_pure q))))))
theorem here163 (X : (hd.heap_39 w.params).In h) : Looks (model PP w) h (Bind.madeHere "dict.__new__" (.ref 163)) () :=
  (base163 X).andThen ((madeBy163 X).andThen (Looks.of_pure (by simp only [Option.map_some, bne_self_eq_false, Bool.false_eq_true, if_false])))
theorem mroS : ∀ w : World, (clsIn (hd.heap_39 w.params) 163).map (fun cd => (cd.mro, cd.hasDel)) = some ([.ref 163, .type "dict", .type "object"], false) := by intro w; kernel_rfl


theorem new163 (X : (hd.heap_39 w.params).In h) (q : R (.ok (.ret (.ref (h.objs.size + 1)))) ⟨(h.push (dictOf [] 0)).push (cdObj h.objs.size [] 0), g, dr, t, os⟩) :
    codeAny (model PP w) A (.call (.builtin "dict.__new__") ⟨[.ref 163], []⟩) R ⟨h, g, dr, t, os⟩ := by
  obtain ⟨oc, od, cd, sl, hC, e4, hc, e3⟩ := obj163 X
  have hmm := mroS w
  rw [hc] at hmm
  obtain ⟨hm1, hm2⟩ := Prod.mk.inj (Option.some.inj hmm)
  have hm : Looks (model PP w) h (mroOf (.ref 163)) [.ref 163, .type "dict", .type "object"] := hm1 ▸ ((looks_clsIn X hc).andThen .now : Looks (model PP w) h (mroOf (.ref 163)) cd.mro)
  refine codeAny_call_builtin_code (Code.quiet_builtin _ (by decide +kernel)) ?_
  simp only [checkBuiltinCall, nk, nsp]
  rw [sq_nsg, ← Option.some_get nsg]
  have here := here163 X
  have sub := looks_mroIn (M := model PP w) X (mro_dict w)
  have base := base163 X
  have made := madeBy163 X
  have typ := looks_instIn (M := model PP w) X (inst163 w)
  dsimp only
  rw [nargs]
  repeat (first | simp only [bne_self_eq_false, Bool.false_eq_true, if_false] | lk)
  refine codeAny_builtin PySem.F.kt_entry_dict_new ?_
  unfold Builtin.«dict.__new__»
  repeat (first | simp only [Bool.not_true, Bool.false_eq_true, if_false] | lk)
  refine wpAny_load (Heap.get?_push_of_some _ (Heap.get?_push_of_some _ hC)) ?_
  refine wpAny_pure ?_
  rw [hm2]
  refine wpAny_pure (wpAny_pure ?_)
  show R _ _
  rw [Heap.size_push]
  exact q


theorem make163 (X : (hd.heap_39 w.params).In h)
    (hq : codeAny (model PP w) (A.under (.builtin "type.__call__" ⟨[.ref 163], []⟩)) (.call (.ref 50) ⟨[.ref (h.objs.size + 1)], []⟩) (InitBack (h.objs.size + 1) R) ⟨(h.push (dictOf [] 0)).push (cdObj h.objs.size [] 0), g, dr, t, os⟩) :
    codeAny (model PP w) A (.call (.ref 163) ⟨[], []⟩) R ⟨h, g, dr, t, os⟩ := by
  obtain ⟨oc, od, cd, sl, hC, e4, hc, e3⟩ := obj163 X
  have call := looks_specialIn (M := model PP w) X (call163 w)
  have typ := looks_instIn (M := model PP w) X (inst163 w)
  refine codeAny_of_tree ?_
  show wpAny _ _ (callAny (.ref 163) _) _ _ _
  refine nd_load hC ?_
  show wpAny _ _ (callAny.viaDunder (.ref 163) _) _ _ _
  unfold callAny.viaDunder
  refine wpAny_bind (call.at ?_)
  dsimp only
  rw [tc_bind]
  refine wpAny_bind (wpAny_pure (wpAny_bind (wpAny_pure ?_)))
  refine wpAny_pure (a := Fin.again (.call (.builtin "type.__call__") ⟨[.ref 163], []⟩)) (And.intro (by kernel_rfl) ?_)
  have ta : argsOk "type.__call__" ⟨.ref 163 :: [], []⟩ := by exact tc_args _ _ _
  refine codeAny_call_builtin_at (Code.quiet_builtin _ (by decide +kernel)) entry_typeCall ?_
  with_reducible refine check_slot tc_kind tc_split typ ta ?_
  unfold Builtin.«type.__call__»
  have hm : Looks (model PP w) h (mroOf (.ref 163)) cd.mro := (looks_clsIn X hc).andThen .now
  have made := madeBy163 X
  repeat (first | (refine wpAny_call (new163 X ?_)) | simp only [e4, Bool.false_eq_true, if_false] | lk)
  have X' : (hd.heap_39 w.params).In ((h.push (dictOf [] 0)).push (cdObj h.objs.size [] 0)) := fun b o e => Heap.get?_push_of_some _ (Heap.get?_push_of_some _ (X _ _ e))
  have hx : ((h.push (dictOf [] 0)).push (cdObj h.objs.size [] 0)).get? (h.objs.size + 1) = some (cdObj h.objs.size [] 0) := by heap_get
  have t1 : Looks (model PP w) ((h.push (dictOf [] 0)).push (cdObj h.objs.size [] 0)) (typeOf (.ref (h.objs.size + 1))) (.ref 163) := (Looks.ld hx).andThen .now
  have s1 := looks_mroIn (M := model PP w) X' (self163 w)
  have i1 := looks_findIn (M := model PP w) X' (init163 w)
  have b1 := bind_fn (M := model PP w) X' (.ref (h.objs.size + 1)) (fn50 w)
  refine wpAny_load hx (wpAny_pure ?_)
  unfold callSpecial? specialOf
  repeat (first | with_reducible refine wpAny_call ?_ | lk)
  refine codeAny_mono hq fun r s' z => ?_
  rcases r with e | (v | _ | _ | _) <;> first | exact z | exact z.elim | skip
  obtain ⟨rfl, z⟩ := z
  exact wpAny_pure (wpAny_pure z)
/-- two new objects onto the ledger -/
theorem news_mem2 {h₀ h h' : Heap} {L x y : Addr} {m : Str → Option Value} {news : List (Addr × Obj)} {o p : Obj} (F : Fr h₀ L h m) (N : News h₀ L h news) (D : W.X.Mem h h' [] [(x, o), (y, p)]) :
    Fr h₀ L h' m ∧ News h₀ L h' ((x, o) :: (y, p) :: news) ∧ (∀ p ∈ news, p.1 ≠ y) ∧ (∀ p ∈ news, p.1 ≠ x) ∧ y < x := by
  have k : ∀ b o, h.get? b = some o → h'.get? b = some o := fun b o e => D.keep _ _ e (by simp [W.X.away])
  have hx := D.nw (x, o) (by simp)
  have hy := D.nw (y, p) (by simp)
  have ho := D.ord
  simp at ho
  obtain ⟨oL, es, ep, hL, r⟩ := F.ns
  have fresh : ∀ q, h.get? q = none → q ≠ L ∧ h₀.get? q = none := fun q e => by
    refine ⟨fun e' => ?_, ?_⟩
    · subst e'; rw [e] at hL; cases hL
    · cases z : h₀.get? q with
      | none => rfl
      | some o => rw [F.keep _ _ z] at e; cases e
  refine ⟨⟨⟨oL, es, ep, k _ _ hL, r⟩, fun b o e => k b o (F.keep b o e), F.above⟩, fun q hq => ?_, fun q hq e => ?_, fun q hq e => ?_, ho⟩
  · rcases List.mem_cons.mp hq with rfl | hq
    · exact ⟨hx.1, (fresh _ hx.2).1, (fresh _ hx.2).2⟩
    · rcases List.mem_cons.mp hq with rfl | hq
      · exact ⟨hy.1, (fresh _ hy.2).1, (fresh _ hy.2).2⟩
      · exact ⟨k _ _ (N q hq).1, (N q hq).2⟩
  · have := (N q hq).1; rw [e, hy.2] at this; cases this
  · have := (N q hq).1; rw [e, hx.2] at this; cases this
end
section
variable {prog : Program} {w : World} {A A₀ : Around} {s : Shared} {K : Frag} {L : Addr} {h₀ base : Heap} {m mg mb : Str → Option Value} {news : List (Addr × Obj)} {p : Program} {loose : List Str} {mean : ExcName → Option Value}
/-- an activation of a def that closes over __class__ and takes *args and **kwargs, called with none beside its own -/
theorem codeS_both {env : Env} {outer : List Env} {R : Result → Shared → Prop} {name qual : Str} {params : Arguments} {body : List Stmt} {scope : Scope} {dV kV doc pm cdv ct oc : Value} {an od : Option Addr} {osl : Array (Option Value)} {f cc : Addr} {args : Args} {binds : Addr → Addr → List (Str × Value)} {g₁ : Addr → Sem (List (Str × Value))} {g₂ : Addr → Addr → Sem (List (Str × Value))}
    (B : Below A₀ base outer h₀) (F : Fr h₀ L s.heap m) (X₀ : K.In h₀) (N : News h₀ L s.heap news) (T : Top p loose mean mg mb h₀) (hA : A.frames = some (env :: outer)) (hf : env.frame = some L) (hke : env.scope.kind = .function)
    (ho : K.lookup f = some ⟨oc, od, .func (ksFn name qual params body scope dV kV doc pm an cdv ct cc), osl⟩) (hcd : codeIn K cdv qual = true) (hroom : A.depth < recursionLimit)
    (hp : peekA K ⟨prog, w.params⟩ (bindArgs (ksFn name qual params body scope dV kV doc pm an cdv ct cc) args) = some (({ cls := .type "tuple", data := .seq #[] } : Obj), g₁))
    (hp₂ : ∀ D, peekA K ⟨prog, w.params⟩ (g₁ D) = some (dictOf [] 0, g₂ D))
    (hk₂ : ∀ C D, g₂ C D = pure (binds C D))
    (hloc : ∀ C D, ∀ y ∈ binds C D, scope.names.lookup y.1 = some .local)
    (h : ∀ C D g L' h₁ tk, (∀ p ∈ news, p.1 < C) → C < D → (D == sysModules) = false → Fr h₀ L g m → Fr g L' h₁ (fun y => (binds C D).reverse.lookup y) →
      News g L' h₁ ((D, dictOf [] 0) :: (C, ({ cls := .type "tuple", data := .seq #[] } : Obj)) :: news) → Below A base (env :: outer) g → K.In g → Top p loose mean mg mb g → (∀ p ∈ ((D, dictOf [] 0) :: (C, ({ cls := .type "tuple", data := .seq #[] } : Obj)) :: news), p.1 < L') →
      _root_.PySem.wpAt (model prog w) (A.deeper (ksEnv qual scope L' f cdv cc)) (.func body (ksEnv qual scope L' f cdv cc)) (execs body (ksEnv qual scope L' f cdv cc))
        (fun fl s' => LeaveK h₀ L m g R (match fl with | .ret v => v | _ => .none) s')
        (fun e s' => wpAny (model prog w) (A.deeper (ksEnv qual scope L' f cdv cc)) (leaving (ksEnv qual scope L' f cdv cc) e) (fun _ s'' => R (.error e) s'') (fun e' s'' => R (.error e') s'') s')
        { s with heap := h₁, toks := tk })
    (hco : scope.isCoroutine = false) (hgen : scope.isGenerator = false) (hk : scope.kind = .function)
    (hcell : ∀ x ∈ scope.names, x.2 ≠ .cell) : codeAny (model prog w) A (.call (.ref f) args) R s := by
  refine codeAny_call_function (fd := ksFn name qual params body scope dV kV doc pm an cdv ct cc) (body := body) hroom ((X₀.keeps F.keep) _ _ ho) rfl hco hgen rfl (codeRec_of (X₀.keeps F.keep) hcd) ?_
  refine wp_of_peekA (o := ({ cls := .type "tuple", data := .seq #[] } : Obj)) F N (X₀.keeps F.keep) rfl _ g₁ hp fun h' F' N' l => ?_
  refine wp_of_peekA (s := { s with heap := h' }) (o := dictOf [] 0) F' N' (X₀.keeps F'.keep) rfl _ (g₂ s.heap.objs.size) (hp₂ _) fun h'' F'' N'' l' => ?_
  rw [hk₂]
  refine wpAny_pure ?_
  obtain ⟨FG, BG, st, lv⟩ := groundX (s := { s with heap := h'' }) (R := R) B F'' N'' hA hf hke
  refine wpAny_newFunctionEnv (s := { s with heap := h'' }) hcell (hloc _ _) (fun h₃ hns₀ hsb₀ => ⟨(T.nolimit.keeps F''.keep).fresh _ hsb₀, ks_codeAny_funcAt ?_⟩) hk
  have hk₁ : ∀ b o, h''.get? b = some o → h₃.get? b = some o := fun b o e => hsb₀.extBut b o (Nat.ne_of_lt (Heap.lt_size e)) (Heap.get?_push_of_some _ e)
  exact ks_wpAt_mono (h _ _ _ h''.objs.size h₃ _ l (l' _ (.head _)) (F'.notModules (modules_low T.nolimit)) FG ⟨hns₀, fun b o e => hk₁ b o (of_hideAll _ e), Nat.le_of_eq (hideAll_size _ _)⟩
    (fun p hp => ⟨hk₁ _ _ (N'' p hp).1, Nat.ne_of_lt (Heap.lt_size (N'' p hp).1), hideAll_none _ (List.mem_map_of_mem hp)⟩) BG (X₀.keeps st) (T.keeps st) (fun p hp => Heap.lt_size (N'' p hp).1)) (fun fl s' hl => lv _ _ hl) fun _ _ y => y
end
end Mine
end
section
open PySem PySem.W PyProof.Rows PySem.Calls
set_option maxRecDepth 100000
set_option maxHeartbeats 8000000
theorem Mine.walkResetS9b : True := by w_top off; trivial
namespace Mine
section
variable {w : World} {A : Around} {E : Value → Shared → Prop} {s : Shared} {h₀ : Heap} {L : Addr} {m : Str → Option Value} {news : List (Addr × Obj)} {Q : Value → Shared → Prop} {env : Env}
theorem eval_method_star {M : Model} {o : PySem.Expr} {name : Str} {apos pos : Pos} {args : List PySem.Expr} {kws : List Keyword}
    (h : wpAny M A (eval o env) (fun ov s₁ => wpAny M A (getAttr ov name true) (fun f s₂ => wpAny M A (callWith pos f [] (backTo pos (starEach args env)) (backToKw pos (keywordEach kws env))) Q E s₂) E s₁) E s)
    (hfew : methodCallForm (args.length + kws.length) (backTo pos (starEach args env)) (backToKw pos (keywordEach kws env)) = false) (hb : attributeBase o name env (eval o env) = eval o env) :
    wpAny M A (eval (.Call (.Attribute o name apos) args kws pos) env) Q E s := by
  show wpAny M A (attributeBase o name env (eval o env) >>= fun ov => standAt apos.atName >>= fun _ => methodCall o name apos pos env ov (args.length + kws.length) (backTo pos (starEach args env)) (backToKw pos (keywordEach kws env))) Q E s
  rw [hb]
  refine wpAny_bind (wpAny_mono h (fun ov s₁ h₁ => wpAny_bind (wpAny_standAt ?_)) fun _ _ x => x)
  unfold methodCall
  rw [hfew]
  unfold calleeOf methodCallPos
  simp only [Bool.false_eq_true, if_false, Bool.not_false, Bool.true_or, if_true]
  refine wpAny_bind (wpAny_holding (wpAny_bind (wpAny_mono h₁ (fun f s₂ h₂ => wpAny_pure ?_) fun _ _ x => x)))
  exact wpAny_bind (wpAny_pure h₂)
/-- a call f(*args, **kwargs) where args is an empty tuple and kwargs an empty exact dict -/
theorem callWith_starkw {M : Model} {P : Heap → Prop} {b : Addr} {pos : Pos} {ea ek : PySem.Expr} {pa pk : Pos}
    (hk : ∀ h, P h → ∃ k, (k = Keeper.frame ∨ k = Keeper.machine ∨ k = Keeper.boundFrame) ∧ Looks M h (keeperOf (.ref b)) k)
    (h : wpAny M A (eval ea env) (fun v s₁ => wpAny M A (mergedKeywords (.ref b) (backToKw pos (keywordEach [⟨none, ek, pk⟩] env))) (fun d s₂ => StarOf M A E v (fun vs s₃ => wpAny M A (keywordsIn (.ref b) d) (fun kw s₄ => P s₄.heap ∧ wpAny M A (call (.ref b) vs kw) Q E s₄) E s₃) s₂) E s₁) E s) :
    wpAny M A (callWith pos (.ref b) [] (backTo pos (starEach [.Starred ea pa] env)) (backToKw pos (keywordEach [⟨none, ek, pk⟩] env))) Q E s := by
  unfold callWith
  have hst : ((backTo pos (starEach [.Starred ea pa] env)).any (·.1) || (backToKw pos (keywordEach [⟨none, ek, pk⟩] env)).any (·.1.isNone)) = true := rfl
  simp only [hst]
  refine wpAny_bind (wpAny_holding ?_)
  have ev : wpAny M A (evalArgs (.ref b) true (backTo pos (starEach [.Starred ea pa] env)) (backToKw pos (keywordEach [⟨none, ek, pk⟩] env))) (fun a s₄ => P s₄.heap ∧ wpAny M A (call (.ref b) a.pos a.kw) Q E s₄) E s := by
    show wpAny M A (evalArgs (.ref b) true [(true, (do let v ← eval ea env; standAt pos; pure v))] (backToKw pos (keywordEach [⟨none, ek, pk⟩] env))) _ E s
    unfold evalArgs
    have hall : (backToKw pos (keywordEach [⟨none, ek, pk⟩] env)).all (·.1.isSome) = false := rfl
    simp only [hall, Bool.false_eq_true, if_false]
    refine wpAny_bind (wpAny_bind (wpAny_mono h (fun v s₁ h₁ => wpAny_bind (wpAny_standAt (wpAny_pure ?_))) fun _ _ x => x))
    refine wpAny_holding ?_
    refine wpAny_bind (wpAny_mono h₁ (fun d s₂ h₂ => ?_) fun _ _ x => x)
    unfold StarOf at h₂
    refine wpAny_bind (wpAny_bind (wpAny_mono h₂ (fun bb s₃ h₃ => ?_) fun _ _ x => x))
    obtain ⟨rfl, h₃⟩ := h₃
    have z := wpAny_holding (vs := [.ref d]) (wpAny_mono h₃ (fun vs s₄ h₄ => (wpAny_bind (wpAny_holding (wpAny_mono h₄ (fun kw s₅ h₅ => wpAny_pure h₅) fun _ _ x => x)) : wpAny M A (do let kw ← holding (.ref d :: vs) (keywordsIn (.ref b) d); pure (⟨vs, kw⟩ : Args)) (fun a s₄ => P s₄.heap ∧ wpAny M A (call (.ref b) a.pos a.kw) Q E s₄) E s₄)) fun _ _ x => x)
    try simp only [Bool.false_eq_true, if_false]
    first
      | exact z
      | exact wpAny_bind (wpAny_pure z)
  refine wpAny_mono ev (fun a s₁ h₁ => wpAny_bind (wpAny_standAt ?_)) fun _ _ x => x
  obtain ⟨k, hk', L⟩ := hk _ h₁.1
  refine wpAny_bind (L.here ?_)
  have tail : ∀ {t : Sem Value}, wpAny M A t Q E s₁ → wpAny M A (t >>= fun r => holding [r] point >>= fun _ => pure r) Q E s₁ :=
    fun ht => wpAny_bind (wpAny_mono ht (fun r s₂ hr => wpAny_bind (wpAny_holding (wpAny_point (wpAny_pure hr)))) fun _ _ x => x)
  have marked (mk : Value) : wpAny M A (callMarked mk (.ref b) ([] ++ a.pos) a.kw) Q E s₁ := by unfold callMarked; exact Calls.wpAny_keep h₁.2
  rcases hk' with rfl | rfl | rfl <;> dsimp only <;> first | exact tail (marked _) | exact tail (wpAny_operating h₁.2)
theorem merged_empty {d0 : Addr} {b : Value} {pos : Pos} {ek : PySem.Expr} {pk : Pos} {Q : Addr → Shared → Prop} (F : Fr h₀ L s.heap m) (N : News h₀ L s.heap news) (hd : (d0, dictOf [] 0) ∈ news) (hs : (d0 == sysModules) = false)
    (he : ∀ (s : Shared) (Q : Value → Shared → Prop), Fr h₀ L s.heap m → Q (.ref d0) s → wpAny (model PP w) A (eval ek env) Q E s)
    (h : ∀ d h', Fr h₀ L h' m → News h₀ L h' ((d, dictOf [] 0) :: news) → (∀ p ∈ news, p.1 < d) → Q d { s with heap := h' }) :
    wpAny (model PP w) A (mergedKeywords b (backToKw pos (keywordEach [⟨none, ek, pk⟩] env))) Q E s := by
  unfold mergedKeywords
  refine wpAny_bind (wpAny_alloc ?_)
  have F' := F.push (dictOf [] 0)
  have N' := News.push F N (dictOf [] 0) rfl
  refine wpAny_bind (wpAny_holding ?_)
  show wpAny _ _ (forIn [((none : Option Str), (do let v ← eval ek env; standAt pos; pure v : Sem Value))] ([] : List (Str × Sem Value)) _ >>= _) _ _ _
  rw [List.forIn_cons]
  refine wpAny_bind (wpAny_bind ?_)
  refine wpAny_bind (wpAny_pure ?_)
  refine wpAny_bind (wpAny_bind (he _ _ F' (wpAny_bind (wpAny_standAt (wpAny_pure ?_)))))
  refine wpAny_bind (wpAny_onRaise ?_)
  refine wpAny_holding ?_
  refine wpAny_tryCatch ?_
  refine wpAny_onRaise ?_
  have D := (N' _ (.tail _ hd)).1
  have hne : s.heap.objs.size ≠ d0 := fun e => absurd (Heap.lt_size (N _ hd).1) (by rw [← e]; exact Nat.lt_irrefl _)
  have hT : Shared.TypeIs { s with heap := s.heap.push (dictOf [] 0) } (.ref d0) "dict" := ⟨_, D, rfl⟩
  have D0 := (N' _ (.head _)).1
  unfold mergeMapping
  refine wpAny_bind (wpAny_isInstance hT isSubtype_dict_dict ?_)
  rw [if_pos rfl]
  refine wpAny_bind (wpAny_specialOf hT PySem.F.slot_dict_iter.lookup (wpAny_bind (wpAny_pure ?_)))
  rw [show (some (Value.builtin "dict.__iter__") == some (Value.builtin "dict.__iter__")) = true from by decide]
  show wpAny _ _ (if (d0 == sysModules) = true then _ else _) _ _ _
  rw [if_neg (by rw [hs]; exact Bool.false_ne_true)]
  refine wpAny_bind (wpAny_dictEntries D0 rfl ?_)
  have hemp : ([] : List DictEntry).toArray.isEmpty = true := rfl
  rw [if_pos hemp]
  refine wpAny_bind (wpAny_dictEntries D rfl ?_)
  refine wpAny_bind ?_
  show wpAny _ _ (pure _) _ _ _
  refine wpAny_pure ?_
  refine wpAny_bind (wpAny_dictEntries D rfl ?_)
  refine wpAny_bind (wpAny_dictEpoch D rfl ?_)
  refine wpAny_bind ?_
  show wpAny _ _ (pure _) _ _ _
  refine wpAny_pure (wpAny_pure (wpAny_pure ?_))
  show wpAny _ _ (pure _) _ _ _
  refine wpAny_pure (wpAny_pure (wpAny_pure ?_))
  exact h _ _ F' N' fun p hp => Heap.lt_size (N p hp).1
theorem kwin_empty {d : Addr} {b : Value} {Q : List (Str × Value) → Shared → Prop} (hd : s.heap.get? d = some (dictOf [] 0)) (h : Q [] s) : wpAny (model PP w) A (keywordsIn b d) Q E s := by
  unfold keywordsIn
  refine wpAny_bind (wpAny_dictEntries hd rfl (wpAny_bind ?_))
  show wpAny _ _ (pure _) _ _ _
  exact wpAny_pure (wpAny_pure h)
end
end Mine
end
section
open PySem PySem.W PyProof.Rows PySem.Calls
set_option maxRecDepth 100000
set_option maxHeartbeats 8000000
theorem Mine.walkResetS9c : True := by w_top off; trivial
namespace Mine
section
variable {w : World} {A : Around} {h : Heap} {g : Array GenState} {dr : Drawn} {t tk : Nat} {os : OsState} {Q : Value → Shared → Prop} {E : Value → Shared → Prop} {x dx : Addr} {es : List DictEntry} {n : Nat}
def MethQ (Q : Value → Shared → Prop) (f x : Addr) (g : Array GenState) (dr : Drawn) (t : Nat) (os : OsState) (h : Heap) : Prop :=
  ∀ q h', W.X.Mem h h' [] [(q, methodObj (.ref f) (.ref x))] → Q (.ref q) ⟨h', g, dr, t, os⟩
theorem meth_of {h' : Heap} {q f : Addr} (z : MethQ Q f x g dr t os h) (D : W.X.Mem h h' [] [(q, methodObj (.ref f) (.ref x))]) : Q (.ref q) ⟨h', g, dr, t, os⟩ := z q h' D
local macro_rules | `(tactic| x_close) => `(tactic| first | exact meth_of (by assumption) (by assumption))
theorem ga_update (hx : h.get? x = some { cls := .ref 163, dict := some dx, data := .dict es.toArray n, slots := #[] }) (hdd : h.get? dx = some { cls := .type "dict", dict := none, data := .dict #[] 0, slots := #[] }) (X : (hd.heap_39 w.params).In h) (z : MethQ Q 132 x g dr t os h) :
   wpAny (model PP w) A (call (.builtin "dict.__getattribute__") [.ref x, .str (Str.ofString "update") tk]) Q E ⟨h, g, dr, t, os⟩ := by
  x_run
end
theorem ga163 (w : World) : findIn (hd.heap_39 w.params) (.ref 163) "__getattribute__" = some (some (.builtin "dict.__getattribute__")) := by kernel_rfl
theorem gt163 (w : World) : findIn (hd.heap_39 w.params) (.ref 163) "__getattr__" = some none := by kernel_rfl
section
variable {w : World} {A : Around} {E : Value → Shared → Prop} {s : Shared} {h₀ : Heap} {L : Addr} {m : Str → Option Value} {news : List (Addr × Obj)} {x dx : Addr} {es : List DictEntry} {n : Nat}
theorem getAttr_told {name : Str} {expr : Bool} {Q : Value → Shared → Prop} (X : (hd.heap_39 w.params).In s.heap) (hx : s.heap.get? x = some (cdObj dx es n))
    (h : ∀ tk, wpAny (model PP w) A (call (.builtin "dict.__getattribute__") [.ref x, .str name tk]) (fun v s' => wpAny (model PP w) A (handedOut v) Q E s') (fun _ _ => False) { s with toks := s.toks + 1 }) :
    wpAny (model PP w) A (getAttr (.ref x) name expr) Q E s := by
  obtain ⟨hh, g, d, tk, os⟩ := s
  have L0 := type_cd (w := w) hx
  have L1 := looks_findIn (M := model PP w) X (ga163 w)
  have L2 := looks_findIn (M := model PP w) X (gt163 w)
  unfold getAttr getAttrBy
  refine wpAny_bind (wpAny_mkText (wpAny_holding (wpAny_bind (L0.at (wpAny_bind (L1.at ?_))))))
  show wpAny _ _ (getAttrByItsOwn (.ref x) (.str name tk) (.ref 163) (.builtin "dict.__getattribute__") true expr) _ _ _
  unfold getAttrByItsOwn hookBefore callGetattribute boundAndCalled
  refine wpAny_bind ?_
  show wpAny _ _ (typeLookup (.ref 163) "__getattr__") _ _ _
  refine L2.at ?_
  refine wpAny_bind (wpAny_attempt (wpAny_holding ?_))
  have e : (expr && onTheHeap (.builtin "dict.__getattribute__")) = false := by cases expr <;> rfl
  rw [e]
  show wpAny _ _ (bindSpecial (.builtin "dict.__getattribute__") (.ref x) >>= _) _ _ _
  refine wpAny_bind (wpAny_of_eq (PySem.F.slot_dict_getattribute.bind _) ?_)
  exact wpAny_mono (h tk) (fun v s' z => z) fun _ _ z => z.elim
theorem canon_dga : (Manifest.canonical "dict.__getattribute__" != "object.__getattribute__") = false := by decide +kernel
theorem method_told {name : Str} {pl : Sem Bool} {f : Value} {T : String} {Q : Value × List Value → Shared → Prop} (F : Fr h₀ L s.heap m) (X₀ : (hd.heap_39 w.params).In h₀) (N : News h₀ L s.heap news) (hx : (x, cdObj dx es n) ∈ news) (hdd : (dx, dictOf [] 0) ∈ news)
    (hf : findIn (hd.heap_39 w.params) (.ref 163) name = some (some f)) (ht : Looks (model PP w) s.heap (typeOf f) (.type T)) (hT : (Value.type T != .type "function" && Value.type T != .type "method_descriptor" && Value.type T != .type "wrapper_descriptor") = false)
    (h : Q (f, [.ref x]) s) : wpAny (model PP w) A (getMethod (.ref x) name pl) Q E s := by
  have X := X₀.keeps F.keep
  have hx1 := (N _ hx).1
  have hd1 := (N _ hdd).1
  have L0 := type_cd (w := w) hx1
  unfold getMethod specialOf
  refine wpAny_bind (wpAny_bind (L0.here ((looks_findIn X (ga163 w)).here ?_)))
  dsimp only
  rw [canon_dga, if_neg (by decide)]
  refine wpAny_bind (wpAny_bind (L0.here ((looks_findIn X (gt163 w)).here ?_)))
  refine wpAny_bind (wpAny_bind (L0.here ((looks_findIn X hf).here (wpAny_bind (ht.here ?_)))))
  rw [hT, if_neg (by decide)]
  refine wpAny_bind (wpAny_loadPart hx1 ?_)
  refine wpAny_bind (wpAny_bind (wpAny_loadPart hd1 ?_))
  rw [nsLook_of (show lookIn name (dictOf [] 0) = some none by rw [lookIn_dict]; rfl)]
  refine wpAny_pure ?_
  exact wpAny_bind (wpAny_rule (wpAny_pure h))
theorem getAttr_update {expr : Bool} {Q : Value → Shared → Prop} (F : Fr h₀ L s.heap m) (X₀ : (hd.heap_39 w.params).In h₀) (N : News h₀ L s.heap news) (hx : (x, cdObj dx es n) ∈ news) (hdd : (dx, dictOf [] 0) ∈ news)
    (h : ∀ q h' tk, Fr h₀ L h' m → News h₀ L h' ((q, methodObj (.ref 132) (.ref x)) :: news) → (∀ p ∈ news, p.1 ≠ q) → Q (.ref q) { s with heap := h', toks := tk }) :
    wpAny (model PP w) A (getAttr (.ref x) (Str.ofString "update") expr) Q E s := by
  refine getAttr_told (X₀.keeps F.keep) (N _ hx).1 fun tk => ?_
  refine ga_update (N _ hx).1 (N _ hdd).1 (X₀.keeps F.keep) fun q h' D => ?_
  have hi := D.nw (q, methodObj (.ref 132) (.ref x)) (by simp)
  obtain ⟨a, b, c⟩ := news_new F N hi.2 hi.1 (fun b o e => D.keep _ _ e (by simp [W.X.away]))
  exact handed_on rfl (h q h' _ a b c)
theorem callWith_starkwM {env : Env} {b f : Addr} {self : Value} {pos : Pos} {ea ek : PySem.Expr} {pa pk : Pos} {Q : Value → Shared → Prop} (N : News h₀ L s.heap news) (hq : (b, methodObj (.ref f) self) ∈ news) (fi : fnIn (hd.heap_39 w.params) f = true)
    (h : wpAny (model PP w) A (eval ea env) (fun v s₁ => wpAny (model PP w) A (mergedKeywords (.ref b) (backToKw pos (keywordEach [⟨none, ek, pk⟩] env))) (fun d s₂ => StarOf (model PP w) A E v (fun vs s₃ => wpAny (model PP w) A (keywordsIn (.ref b) d) (fun kw s₄ => MethP (hd.heap_39 w.params) b f self s₄.heap ∧ wpAny (model PP w) A (call (.ref b) vs kw) Q E s₄) E s₃) s₂) E s₁) E s) :
    wpAny (model PP w) A (callWith pos (.ref b) [] (backTo pos (starEach [.Starred ea pa] env)) (backToKw pos (keywordEach [⟨none, ek, pk⟩] env))) Q E s :=
  have _ := (N _ hq).1
  callWith_starkw (keeps_M fi) h
end
end Mine
end
section
open PySem PySem.W PyProof.Rows PySem.Calls
set_option maxRecDepth 100000
set_option maxHeartbeats 8000000
theorem Mine.walkResetS10 : True := by w_top off; trivial
namespace Mine
section
variable {w : World} {A : Around} {h : Heap} {g : Array GenState} {dr : Drawn} {t tk : Nat} {os : OsState} {Q : Value → Shared → Prop} {E : Value → Shared → Prop} {d vw it : Addr} {es : Array DictEntry} {n ep i : Nat} {ok ov : Value}
def KeptQ (Q : Value → Shared → Prop) (v : Value) (g : Array GenState) (dr : Drawn) (t : Nat) (os : OsState) (h : Heap) : Prop := ∀ h', (∀ b o, h.get? b = some o → h'.get? b = some o) → Q v ⟨h', g, dr, t, os⟩
theorem kept_of {h' : Heap} {v : Value} {l : List (Addr × Obj)} (z : KeptQ Q v g dr t os h) (D : W.X.Mem h h' [] l) : Q v ⟨h', g, dr, t, os⟩ := z h' fun b o e => D.keep _ _ e (by simp [W.X.away])
abbrev iterO (d : Addr) (k ep : Nat) : Obj := { cls := .type "dict_itemiterator", dict := none, data := .fields #[.none, .bool false, .ref d, .int 0 0, .int k 0, .int ep 0, .none, .none], slots := #[] }
def IterQ (Q : Value → Shared → Prop) (d : Addr) (k ep : Nat) (g : Array GenState) (dr : Drawn) (t : Nat) (os : OsState) (h : Heap) : Prop :=
  ∀ it h', W.X.Mem h h' [] [(it, iterO d k ep)] → Q (.ref it) ⟨h', g, dr, t, os⟩
theorem iter_of {h' : Heap} {it : Addr} {k ep : Nat} (z : IterQ Q d k ep g dr t os h) (D : W.X.Mem h h' [] [(it, iterO d k ep)]) : Q (.ref it) ⟨h', g, dr, t, os⟩ := z it h' D
local macro_rules | `(tactic| x_close) => `(tactic| first | exact kept_of (by assumption) (by assumption) | exact iter_of (by assumption) (by assumption))
theorem has_x (hx : h.get? d = some { cls := .type "dict", dict := none, data := .dict es n, slots := #[] }) (X : (hd.heap_39 w.params).In h) (z : KeptQ Q (.bool true) g dr t os h) :
   wpAny (model PP w) A (call (.builtin "hasattr") [.ref d, .str (Str.ofString "items") tk]) Q E ⟨h, g, dr, t, os⟩ := by
  x_run
theorem iter_x (hx : h.get? d = some { cls := .type "dict", dict := none, data := .dict es n, slots := #[] }) (hv : h.get? vw = some { cls := .type "dict_items", dict := none, data := .fields #[.ref d], slots := #[] }) (X : (hd.heap_39 w.params).In h)
   (z : IterQ Q d es.size n g dr t os h) :
   wpAny (model PP w) A (call (.builtin "iter") [.ref vw]) Q E ⟨h, g, dr, t, os⟩ := by
  x_run
end
theorem exact_shape {o : Obj} {es : Array DictEntry} {n : Nat} (x : o.ExactDict) (e : o.data = .dict es n) : o = { cls := .type "dict", dict := none, data := .dict es n, slots := #[] } := by
  obtain ⟨c, d, da, sl⟩ := o
  obtain ⟨a, b, c'⟩ := x
  dsimp only at a b c' e
  subst a b c' e
  rfl
section
variable {w : World} {A : Around} {E : Value → Shared → Prop} {s : Shared} {h₀ : Heap} {L : Addr} {m : Str → Option Value} {news : List (Addr × Obj)} {d vw : Addr} {o : Obj} {Q : Value → Shared → Prop} {K : Type} [DecidableEq K] {knd : KeyKind PP w K} {kvs : List (K × Value)}
theorem keep_fn {h h' : Heap} (F : Fr h₀ L h m) (N : News h₀ L h news) (k : ∀ b o, h.get? b = some o → h'.get? b = some o) : Fr h₀ L h' m ∧ News h₀ L h' news := by
  obtain ⟨oL, es, ep, hL, r⟩ := F.ns
  exact ⟨⟨⟨oL, es, ep, k _ _ hL, r⟩, fun b o e => k b o (F.keep b o e), F.above⟩, fun p hp => ⟨k _ _ (N p hp).1, (N p hp).2⟩⟩
theorem ln_has {tk : Tok} (F : Fr h₀ L s.heap m) (X₀ : (hd.heap_39 w.params).In h₀) (N : News h₀ L s.heap news) (hp : (d, o) ∈ news) (hd : o.IsDictOf knd kvs)
    (h : ∀ h', Fr h₀ L h' m → News h₀ L h' news → Q (.bool true) { s with heap := h' }) :
    wpAny (model PP w) A (call (.builtin "hasattr") [.ref d, .str (Str.ofString "items") tk]) Q E s := by
  obtain ⟨hh, g, dr, t, os⟩ := s
  obtain ⟨es, n, x, e, -⟩ := hd
  have ho := (N _ hp).1
  rw [exact_shape x e] at ho
  exact has_x ho (X₀.keeps F.keep) fun h' k => let ⟨a, b⟩ := keep_fn F N k; h h' a b
theorem ln_iter (F : Fr h₀ L s.heap m) (X₀ : (hd.heap_39 w.params).In h₀) (N : News h₀ L s.heap news) (hv : (vw, { cls := .type "dict_items", data := .fields #[.ref d] }) ∈ news) (hp : (d, o) ∈ news) (hd : o.IsDictOf knd kvs)
    (h : ∀ it ep h', (∃ es, o.data = .dict es ep) → Fr h₀ L h' m → News h₀ L h' ((it, iterO d kvs.length ep) :: news) → (∀ p ∈ news, p.1 ≠ it) → Q (.ref it) { s with heap := h' }) :
    wpAny (model PP w) A (call (.builtin "iter") [.ref vw]) Q E s := by
  obtain ⟨hh, g, dr, t, os⟩ := s
  obtain ⟨es, n, x, e, hk, hpr, -⟩ := hd
  have ho := (N _ hp).1
  rw [exact_shape x e] at ho
  have hsz : es.size = kvs.length := by rw [← hpr.length]; simp
  refine iter_x ho (N _ hv).1 (X₀.keeps F.keep) fun it h' D => ?_
  have hi := D.nw (it, iterO d es.size n) (by simp)
  obtain ⟨a, b, c⟩ := news_new F N hi.2 hi.1 (fun b o e => D.keep _ _ e (by simp [W.X.away]))
  exact h it n h' ⟨es, e⟩ a (by rw [← hsz]; exact b) c
end
section
variable {w : World} {A : Around} {E : Value → Shared → Prop} {s : Shared} {env : Env} {h₀ : Heap} {body : List Stmt} {Q : Flow → Shared → Prop} {K : Type} [DecidableEq K] {knd : KeyKind PP w K} {kvs : List (K × Value)}
theorem my_items {elts : List PySem.Expr} {kk : Nat} {pos : Pos} {it d : Addr} {od : Obj} {ep : Nat} {xs : List Itm} {m₀ : Str → Option Value} {news : List (Addr × Obj)}
    (hh : A.handled = none) (F : Fr h₀ env.locals s.heap m₀) (N : News h₀ env.locals s.heap ((it, iterO d kvs.length ep) :: news)) (hm : (d, od) ∈ news) (hd : od.IsDictOf knd kvs) (hep : ∃ es, od.data = .dict es ep)
    (hoff : OffI it (iterO d kvs.length ep) news)
    (hx : ∀ (i : Nat) (kv : K × Value), kvs[i]? = some kv → ∀ v, knd.is kv.1 v = true → ∃ f t, v = f t ∧ xs[i]? = some (Itm.pair f kv.2)) (hlen : xs.length = kvs.length)
    (rest₀ : ItemsRest PP w A E h₀ env (.Tuple elts kk pos) body Q s [(it, "dict_itemiterator")] [(d, od)] xs m₀ news) :
    wpAny (model PP w) A (pyIter (.ref it)) (fun it s₂ => TurnsAt PP w A h₀ env (.Tuple elts kk pos) body Q E it s₂) E s := by
  have hit := (N _ (.head _)).1
  have hN : News h₀ env.locals s.heap news := fun p hp => N p (.tail _ hp)
  have hne : ∀ p ∈ news, p.1 ≠ it := fun p hp e => by
    rcases hoff.at p hp with q | q
    · exact q e
    · have := (N p (.tail _ hp)).1
      rw [e, hit] at this
      exact q (by rw [← Option.some.inj this])
  have hax := hN _ hm
  obtain ⟨es, ep', x, e, r⟩ := hd
  obtain ⟨es', e'⟩ := hep
  rw [e] at e'
  cases e'
  have hat : s.heap.DictAt knd d kvs ep := ⟨od, es, hax.1, x, e, r⟩
  have hdi : d ≠ it := hne _ hm
  refine kcp_self (d := d) (i := 0) (n := kvs.length) (ep := ep) hit ?_
  refine ktu_core (hp := s.heap) (tk0 := s.toks) (keep := [(d, od)]) (kti_itemsTurns (knd := knd) hh it d hdi kvs ep) hlen.symm ?_ ?_ ?_ ?_ ?_ ?_ ?_ ?_ F hN (And.intro hm trivial) rest₀
  · rintro i v h ⟨T', key, k, x, rfl, hx', hk, hT⟩
    obtain ⟨f, t, rfl, hxi⟩ := hx i (k, x) hx' key hk
    exact ⟨.pair f x, hxi, T', t, rfl, hT⟩
  · rintro i h ⟨⟨ok, ov, he⟩, _⟩
    have e1 : ∃ o : Obj, h.get? it = some o ∧ o.cls = .type "dict_itemiterator" := ⟨_, he, rfl⟩
    obtain ⟨oi, g, c⟩ := e1
    exact ⟨[(it, oi)], ⟨⟨rfl, c⟩, trivial⟩, fun p hp => by rw [List.mem_singleton.mp hp]; exact g⟩
  · intro b hb
    have hb' : b = it := by simpa using hb
    rw [hb']
    exact ⟨List.mem_cons_self .., (N _ (.head _)).2.2⟩
  · intro b hb
    simpa using hb
  · intro b hb
    have hb' : b = it ∨ b = d := by simpa using hb
    rcases hb' with e | e
    · exact .inl (by simp [e])
    · exact .inr ⟨od, by simp [e]⟩
  · intro hI
    have hb' : env.locals = it ∨ env.locals = d := by simpa using hI
    rcases hb' with e | e
    · exact (N _ (.head _)).2.1 e.symm
    · exact hax.2.1 e.symm
  · intro p hp hI
    exact hne p hp (List.mem_singleton.mp hI)
  · exact ⟨⟨.none, .none, hit⟩, hat⟩
end
theorem items_nil {w : World} : ∀ (i : Nat) (kv : Str × Value), ([] : List (Str × Value))[i]? = some kv → ∀ v, (strKind PP w).is kv.1 v = true → ∃ f t, v = f t ∧ ([] : List Itm)[i]? = some (Itm.pair f kv.2) := fun i kv e => by simp at e
theorem items_one {w : World} {x : Str} {y : Value} : ∀ (i : Nat) (kv : Str × Value), [(x, y)][i]? = some kv → ∀ v, (strKind PP w).is kv.1 v = true → ∃ f t, v = f t ∧ [Itm.pair (fun t => Value.str x t) y][i]? = some (Itm.pair f kv.2) := fun i kv e v hv => by
  cases i with
  | zero =>
    simp at e
    subst e
    obtain ⟨t, rfl⟩ := Value.isStrOf_shape hv
    exact ⟨_, t, rfl, rfl⟩
  | succ i => simp at e
end Mine
end
section
open PySem PySem.W PyProof.Rows PySem.Calls
set_option maxRecDepth 100000
set_option maxHeartbeats 8000000
theorem Mine.walkResetS11 : True := by w_top off; trivial
namespace Mine

theorem g_has_key {w : World} {A₀ : Around} {base h₀ : Heap} {outer : List Env} {env : Env} {A : Around} {L : Addr} {m mg mb : Str → Option Value} {s : Shared} {p : Program} {loose : List Str} {mean : ExcName → Option Value}
    {told dx : Addr} {es : List DictEntry} {n : Nat} {od : Obj} {c : Ents} {news : List (Addr × Obj)} {gg : Obj → List (Addr × Obj)} {Q : Value → Shared → Prop} {E : Value → Shared → Prop} {x ux : Str} {t : Tok} 
    (hA0 : A.handled = none) (hA : A.frames = some (env :: outer)) (hcr : A.depth + 20 < recursionLimit) (hcu : A.units + 100 < cLine)
    (B : Below A₀ base outer h₀) (F : Fr h₀ L s.heap m) (X₀ : (hd.heap_39 w.params).In h₀) (N : News h₀ L s.heap news) (U : UpdF told (cdObj dx es n) news gg) (hm : (dx, od) ∈ news) (T : Top p loose mean mg mb h₀)
    (hf : env.frame = some L) (hk : env.scope.kind = .function) (hdx : dx ≠ told) (hE : EK w es c) (hxs : (told == sysModules) = false) (hup : Txt.upper x = ux) (hul : PySem.Builtin.Str.tooLong (Txt.upper x).length = false) 
    (hQ : ∀ h' tk, Fr h₀ L h' m → News h₀ L h' news → Q (.bool (cget c ux).isSome) { s with heap := h', toks := tk }) :
    wpAny (model PP w) A (call (.ref 125) [.ref told, .str x t]) Q E s := by
  obtain ⟨hd', d, fr, gs, u⟩ := A
  dsimp only at hA0 hA hcr hcu
  subst hA0 hA
  exact u_has_key hcr hcu B F X₀ N U hm T hf hk hdx hE hxs hup hul  hQ

theorem g_contains {w : World} {A₀ : Around} {base h₀ : Heap} {outer : List Env} {env : Env} {A : Around} {L : Addr} {m mg mb : Str → Option Value} {s : Shared} {p : Program} {loose : List Str} {mean : ExcName → Option Value}
    {told dx : Addr} {es : List DictEntry} {n : Nat} {od : Obj} {c : Ents} {news : List (Addr × Obj)} {gg : Obj → List (Addr × Obj)} {Q : Value → Shared → Prop} {E : Value → Shared → Prop} {x ux : Str} {t : Tok} 
    (hA0 : A.handled = none) (hA : A.frames = some (env :: outer)) (hcr : A.depth + 20 < recursionLimit) (hcu : A.units + 100 < cLine)
    (B : Below A₀ base outer h₀) (F : Fr h₀ L s.heap m) (X₀ : (hd.heap_39 w.params).In h₀) (N : News h₀ L s.heap news) (U : UpdF told (cdObj dx es n) news gg) (hm : (dx, od) ∈ news) (T : Top p loose mean mg mb h₀)
    (hf : env.frame = some L) (hk : env.scope.kind = .function) (hdx : dx ≠ told) (hE : EK w es c) (hxs : (told == sysModules) = false) (hup : Txt.upper x = ux) (hul : PySem.Builtin.Str.tooLong (Txt.upper x).length = false) 
    (hQ : ∀ h' tk, Fr h₀ L h' m → News h₀ L h' news → Q (.bool (cget c ux).isSome) { s with heap := h', toks := tk }) :
    wpAny (model PP w) A (call (.ref 82) [.ref told, .str x t]) Q E s := by
  obtain ⟨hd', d, fr, gs, u⟩ := A
  dsimp only at hA0 hA hcr hcu
  subst hA0 hA
  exact u_contains hcr hcu B F X₀ N U hm T hf hk hdx hE hxs hup hul  hQ

theorem g_get {w : World} {A₀ : Around} {base h₀ : Heap} {outer : List Env} {env : Env} {A : Around} {L : Addr} {m mg mb : Str → Option Value} {s : Shared} {p : Program} {loose : List Str} {mean : ExcName → Option Value}
    {told dx : Addr} {es : List DictEntry} {n : Nat} {od : Obj} {c : Ents} {news : List (Addr × Obj)} {gg : Obj → List (Addr × Obj)} {Q : Value → Shared → Prop} {E : Value → Shared → Prop} {x ux : Str} {t : Tok} {df : Value}
    (hA0 : A.handled = none) (hA : A.frames = some (env :: outer)) (hcr : A.depth + 20 < recursionLimit) (hcu : A.units + 100 < cLine)
    (B : Below A₀ base outer h₀) (F : Fr h₀ L s.heap m) (X₀ : (hd.heap_39 w.params).In h₀) (N : News h₀ L s.heap news) (U : UpdF told (cdObj dx es n) news gg) (hm : (dx, od) ∈ news) (T : Top p loose mean mg mb h₀)
    (hf : env.frame = some L) (hk : env.scope.kind = .function) (hdx : dx ≠ told) (hE : EK w es c) (hxs : (told == sysModules) = false) (hup : Txt.upper x = ux) (hul : PySem.Builtin.Str.tooLong (Txt.upper x).length = false) 
    (hN : ∀ h' tk, cget c ux = none → Fr h₀ L h' m → News h₀ L h' news → Q df { s with heap := h', toks := tk })
    (hS : ∀ h' tk v tv, cget c ux = some v → Fr h₀ L h' m → News h₀ L h' news → Q (.int v tv) { s with heap := h', toks := tk }) :
    wpAny (model PP w) A (call (.ref 91) [.ref told, .str x t, df]) Q E s := by
  obtain ⟨hd', d, fr, gs, u⟩ := A
  dsimp only at hA0 hA hcr hcu
  subst hA0 hA
  exact u_get hcr hcu B F X₀ N U hm T hf hk hdx hE hxs hup hul  hN hS

theorem g_getitem {w : World} {A₀ : Around} {base h₀ : Heap} {outer : List Env} {env : Env} {A : Around} {L : Addr} {m mg mb : Str → Option Value} {s : Shared} {p : Program} {loose : List Str} {mean : ExcName → Option Value}
    {told dx : Addr} {es : List DictEntry} {n : Nat} {od : Obj} {c : Ents} {news : List (Addr × Obj)} {gg : Obj → List (Addr × Obj)} {Q : Value → Shared → Prop} {E : Value → Shared → Prop} {x ux : Str} {t : Tok} 
    (hA0 : A.handled = none) (hA : A.frames = some (env :: outer)) (hcr : A.depth + 20 < recursionLimit) (hcu : A.units + 100 < cLine)
    (B : Below A₀ base outer h₀) (F : Fr h₀ L s.heap m) (X₀ : (hd.heap_39 w.params).In h₀) (N : News h₀ L s.heap news) (U : UpdF told (cdObj dx es n) news gg) (hm : (dx, od) ∈ news) (T : Top p loose mean mg mb h₀)
    (hf : env.frame = some L) (hk : env.scope.kind = .function) (hdx : dx ≠ told) (hE : EK w es c) (hxs : (told == sysModules) = false) (hup : Txt.upper x = ux) (hul : PySem.Builtin.Str.tooLong (Txt.upper x).length = false) 
    (hS : ∀ h' tk v tv, cget c ux = some v → Fr h₀ L h' m → News h₀ L h' news → Q (.int v tv) { s with heap := h', toks := tk })
    (hX : ∀ h' tk e g', cget c ux = none → Fr h₀ L g' m → g'.UpToSlots h' → RaisedN base (env :: outer) e (.type "KeyError") news h' → E (.ref e) { s with heap := h', toks := tk }) :
    wpAny (model PP w) A (call (.ref 58) [.ref told, .str x t]) Q E s := by
  obtain ⟨hd', d, fr, gs, u⟩ := A
  dsimp only at hA0 hA hcr hcu
  subst hA0 hA
  exact u_getitem hcr hcu B F X₀ N U hm T hf hk hdx hE hxs hup hul  hS hX

theorem g_setitem {w : World} {A₀ : Around} {base h₀ : Heap} {outer : List Env} {env : Env} {A : Around} {L : Addr} {m mg mb : Str → Option Value} {s : Shared} {p : Program} {loose : List Str} {mean : ExcName → Option Value}
    {told dx : Addr} {es : List DictEntry} {n : Nat} {od : Obj} {c : Ents} {news : List (Addr × Obj)} {gg : Obj → List (Addr × Obj)} {Q : Value → Shared → Prop} {E : Value → Shared → Prop} {x ux : Str} {t : Tok} {v : Int} {tv : Tok}
    (hA0 : A.handled = none) (hA : A.frames = some (env :: outer)) (hcr : A.depth + 20 < recursionLimit) (hcu : A.units + 100 < cLine)
    (B : Below A₀ base outer h₀) (F : Fr h₀ L s.heap m) (X₀ : (hd.heap_39 w.params).In h₀) (N : News h₀ L s.heap news) (U : UpdF told (cdObj dx es n) news gg) (hm : (dx, od) ∈ news) (T : Top p loose mean mg mb h₀)
    (hf : env.frame = some L) (hk : env.scope.kind = .function) (hdx : dx ≠ told) (hE : EK w es c) (hxs : (told == sysModules) = false) (hup : Txt.upper x = ux) (hul : PySem.Builtin.Str.tooLong (Txt.upper x).length = false) (hsz : c.length ≤ 1000)
    (hS : ∀ h' tk es' n', EK w es' (cput c ux v) → Fr h₀ L h' m → News h₀ L h' (gg (cdObj dx es' n')) → Q .none { s with heap := h', toks := tk }) :
    wpAny (model PP w) A (call (.ref 66) [.ref told, .str x t, .int v tv]) Q E s := by
  obtain ⟨hd', d, fr, gs, u⟩ := A
  dsimp only at hA0 hA hcr hcu
  subst hA0 hA
  exact u_setitem hcr hcu B F X₀ N U hm T hf hk hdx hE hxs hup hul hsz hS

theorem g_delitem {w : World} {A₀ : Around} {base h₀ : Heap} {outer : List Env} {env : Env} {A : Around} {L : Addr} {m mg mb : Str → Option Value} {s : Shared} {p : Program} {loose : List Str} {mean : ExcName → Option Value}
    {told dx : Addr} {es : List DictEntry} {n : Nat} {od : Obj} {c : Ents} {news : List (Addr × Obj)} {gg : Obj → List (Addr × Obj)} {Q : Value → Shared → Prop} {E : Value → Shared → Prop} {x ux : Str} {t : Tok} 
    (hA0 : A.handled = none) (hA : A.frames = some (env :: outer)) (hcr : A.depth + 20 < recursionLimit) (hcu : A.units + 100 < cLine)
    (B : Below A₀ base outer h₀) (F : Fr h₀ L s.heap m) (X₀ : (hd.heap_39 w.params).In h₀) (N : News h₀ L s.heap news) (U : UpdF told (cdObj dx es n) news gg) (hm : (dx, od) ∈ news) (T : Top p loose mean mg mb h₀)
    (hf : env.frame = some L) (hk : env.scope.kind = .function) (hdx : dx ≠ told) (hE : EK w es c) (hxs : (told == sysModules) = false) (hup : Txt.upper x = ux) (hul : PySem.Builtin.Str.tooLong (Txt.upper x).length = false) (hsz : c.length ≤ 1000)
    (hS : ∀ h' tk es' n' v, cget c ux = some v → EK w es' (cdel c ux) → Fr h₀ L h' m → News h₀ L h' (gg (cdObj dx es' n')) → Q .none { s with heap := h', toks := tk })
    (hX : ∀ h' tk e g', cget c ux = none → Fr h₀ L g' m → g'.UpToSlots h' → RaisedN base (env :: outer) e (.type "KeyError") news h' → E (.ref e) { s with heap := h', toks := tk }) :
    wpAny (model PP w) A (call (.ref 74) [.ref told, .str x t]) Q E s := by
  obtain ⟨hd', d, fr, gs, u⟩ := A
  dsimp only at hA0 hA hcr hcu
  subst hA0 hA
  exact u_delitem hcr hcu B F X₀ N U hm T hf hk hdx hE hxs hup hul hsz hS hX

theorem g_setdefault {w : World} {A₀ : Around} {base h₀ : Heap} {outer : List Env} {env : Env} {A : Around} {L : Addr} {m mg mb : Str → Option Value} {s : Shared} {p : Program} {loose : List Str} {mean : ExcName → Option Value}
    {told dx : Addr} {es : List DictEntry} {n : Nat} {od : Obj} {c : Ents} {news : List (Addr × Obj)} {gg : Obj → List (Addr × Obj)} {Q : Value → Shared → Prop} {E : Value → Shared → Prop} {x ux : Str} {t : Tok} {v : Int} {tv : Tok}
    (hA0 : A.handled = none) (hA : A.frames = some (env :: outer)) (hcr : A.depth + 20 < recursionLimit) (hcu : A.units + 100 < cLine)
    (B : Below A₀ base outer h₀) (F : Fr h₀ L s.heap m) (X₀ : (hd.heap_39 w.params).In h₀) (N : News h₀ L s.heap news) (U : UpdF told (cdObj dx es n) news gg) (hm : (dx, od) ∈ news) (T : Top p loose mean mg mb h₀)
    (hf : env.frame = some L) (hk : env.scope.kind = .function) (hdx : dx ≠ told) (hE : EK w es c) (hxs : (told == sysModules) = false) (hup : Txt.upper x = ux) (hul : PySem.Builtin.Str.tooLong (Txt.upper x).length = false) (hsz : c.length ≤ 1000)
    (hS : ∀ h' tk v' tv', cget c ux = some v' → Fr h₀ L h' m → News h₀ L h' news → Q (.int v' tv') { s with heap := h', toks := tk })
    (hN : ∀ h' tk es' n', cget c ux = none → EK w es' (cput c ux v) → Fr h₀ L h' m → News h₀ L h' (gg (cdObj dx es' n')) → Q (.int v tv) { s with heap := h', toks := tk }) :
    wpAny (model PP w) A (call (.ref 100) [.ref told, .str x t, .int v tv]) Q E s := by
  obtain ⟨hd', d, fr, gs, u⟩ := A
  dsimp only at hA0 hA hcr hcu
  subst hA0 hA
  exact u_setdefault hcr hcu B F X₀ N U hm T hf hk hdx hE hxs hup hul hsz hS hN

theorem g_pop {w : World} {A₀ : Around} {base h₀ : Heap} {outer : List Env} {env : Env} {A : Around} {L : Addr} {m mg mb : Str → Option Value} {s : Shared} {p : Program} {loose : List Str} {mean : ExcName → Option Value}
    {told dx : Addr} {es : List DictEntry} {n : Nat} {od : Obj} {c : Ents} {news : List (Addr × Obj)} {gg : Obj → List (Addr × Obj)} {Q : Value → Shared → Prop} {E : Value → Shared → Prop} {x ux : Str} {t : Tok} {df : Value}
    (hA0 : A.handled = none) (hA : A.frames = some (env :: outer)) (hcr : A.depth + 20 < recursionLimit) (hcu : A.units + 100 < cLine)
    (B : Below A₀ base outer h₀) (F : Fr h₀ L s.heap m) (X₀ : (hd.heap_39 w.params).In h₀) (N : News h₀ L s.heap news) (U : UpdF told (cdObj dx es n) news gg) (hm : (dx, od) ∈ news) (T : Top p loose mean mg mb h₀)
    (hf : env.frame = some L) (hk : env.scope.kind = .function) (hdx : dx ≠ told) (hE : EK w es c) (hxs : (told == sysModules) = false) (hup : Txt.upper x = ux) (hul : PySem.Builtin.Str.tooLong (Txt.upper x).length = false) (hsz : c.length ≤ 1000)
    (hN : ∀ h' tk, cget c ux = none → Fr h₀ L h' m → News h₀ L h' news → Q df { s with heap := h', toks := tk })
    (hS : ∀ h' tk es' n' v tv, cget c ux = some v → EK w es' (cdel c ux) → Fr h₀ L h' m → News h₀ L h' (gg (cdObj dx es' n')) → Q (.int v tv) { s with heap := h', toks := tk }) :
    wpAny (model PP w) A (call (.ref 109) [.ref told, .str x t, df]) Q E s := by
  obtain ⟨hd', d, fr, gs, u⟩ := A
  dsimp only at hA0 hA hcr hcu
  subst hA0 hA
  exact u_pop hcr hcu B F X₀ N U hm T hf hk hdx hE hxs hup hul hsz hN hS

theorem g_popitem {w : World} {A₀ : Around} {base h₀ : Heap} {outer : List Env} {env : Env} {A : Around} {L : Addr} {m mg mb : Str → Option Value} {s : Shared} {p : Program} {loose : List Str} {mean : ExcName → Option Value}
    {told dx : Addr} {es : List DictEntry} {n : Nat} {od : Obj} {c : Ents} {news : List (Addr × Obj)} {gg : Obj → List (Addr × Obj)} {Q : Value → Shared → Prop} {E : Value → Shared → Prop}  
    (hA0 : A.handled = none) (hA : A.frames = some (env :: outer)) (hcr : A.depth + 20 < recursionLimit) (hcu : A.units + 100 < cLine)
    (B : Below A₀ base outer h₀) (F : Fr h₀ L s.heap m) (X₀ : (hd.heap_39 w.params).In h₀) (N : News h₀ L s.heap news) (U : UpdF told (cdObj dx es n) news gg) (hm : (dx, od) ∈ news) (T : Top p loose mean mg mb h₀)
    (hf : env.frame = some L) (hk : env.scope.kind = .function) (hdx : dx ≠ told) (hE : EK w es c) (hxs : (told == sysModules) = false)  (hsz : c.length ≤ 1000)
    (hS : ∀ h' tk es' n' k v t₁ t₂ a, c.getLast? = some (k, v) → EK w es' c.dropLast → Fr h₀ L h' m → News h₀ L h' ((a, { cls := .type "tuple", data := .seq #[.str k t₁, .int v t₂] }) :: gg (cdObj dx es' n')) → Q (.ref a) { s with heap := h', toks := tk })
    (hX : ∀ h' tk e g', c = [] → Fr h₀ L g' m → g'.UpToSlots h' → RaisedN base (env :: outer) e (.type "KeyError") news h' → E (.ref e) { s with heap := h', toks := tk }) :
    wpAny (model PP w) A (call (.ref 117) [.ref told]) Q E s := by
  obtain ⟨hd', d, fr, gs, u⟩ := A
  dsimp only at hA0 hA hcr hcu
  subst hA0 hA
  exact u_popitem hcr hcu B F X₀ N U hm T hf hk hdx hE hxs  hsz hS hX
end Mine
end
section
open PySem PySem.W PyProof.Rows PySem.Calls
set_option maxRecDepth 100000
set_option maxHeartbeats 8000000
theorem Mine.walkResetS12 : True := by w_top off; trivial
namespace Mine
local macro_rules | `(tactic| k_ne) => `(tactic| (refine neN ?_; (try dsimp only); first | with_reducible assumption | with_reducible exact Ne.symm (by assumption) | with_reducible exact Nat.ne_of_lt (by assumption) | with_reducible exact Nat.ne_of_gt (by assumption)))
local macro_rules | `(tactic| k_in) => `(tactic| first | with_reducible assumption | with_reducible exact Frag.In.keeps (by assumption) (Fr.keep (by assumption)))
local macro_rules | `(tactic| walk_at "callWith ref") => `(tactic| (k_here; k_dflt (first
  | ((with_reducible show wpAny _ _ (callWith _ _ _ (backTo _ (starEach (_ :: _) _)) _) _ _ _); refine' callWith_K ?k1 ?k2 ?_; (case k1 => k_asm); (case k2 => k_is); k_whole)
  | ((with_reducible show wpAny _ _ (callWith _ _ _ (backTo _ (starEach [] _)) _) _ _ _); refine' callWith_K0 ?k1 ?k2 ?_; (case k1 => k_in); (case k2 => k_is); k_whole))))
local macro_rules | `(tactic| walk_at "callWith") => `(tactic| (k_here; (with_reducible show wpAny _ _ (callWith _ (Value.builtin _) (_ :: _) (backTo _ (starEach (_ :: _) _)) []) _ _ _); k_dflt (refine PyProof.Rows.callWith_method1 ?_)))
local macro_rules | `(tactic| walk_at "eval Name") => `(tactic| (k_here; (fail_if_success (with_reducible show wpAny _ _ (eval (Expr.Name _ _) (compEnvC _ _ _ _)) _ _ _)); k_dflt (first
  | (refine' nameX_L ?F ?v ?_ ?a ?b; (case F => k_asm); (case a => rfl); (case b => rfl); (case v => rfl); k_whole)
  | (refine' nameX_C ?N ?c ?m ?d ?_ ?a ?b; (case a => rfl); (case b => rfl); (case N => k_asm); (case c => rfl); (case m => k_mem); (case d => k_asm); k_whole)
  | (refine' nameX_K ?F ?X ?T ?e ?_ ?a ?b; (case F => k_asm); (case X => k_asm); (case T => k_asm); (case a => rfl); (case b => rfl); (case e => k_is); k_whole)
  | (refine' nameX_B ?F ?X ?T ?e ?v ?n ?_ ?a ?b; (case F => k_asm); (case X => k_asm); (case T => k_asm); (case a => rfl); (case b => rfl); (case e => k_is); (case v => boot_fast); (case n => decide); k_whole))))
local macro_rules | `(tactic| k_inst) => `(tactic| (refine' inst_cd ?N ?h1 ?h2; (case N => k_asm); (case h1 => k_mem); (case h2 => k_mem)))
local macro_rules | `(tactic| k_room) => `(tactic| ((try simp only [depth_mark, depth_under_make, depth_under_kw, depth_in1, depth_deeper, depth_caller]); (try simp only [Around.deeper]); omega))
local macro_rules | `(tactic| k_all) => `(tactic| assumption)
local macro_rules | `(tactic| walk_at "wpAt") => `(tactic| (ks_step "eval Call"; (refine at_MethodCall ?_ ?hfo ?hli); (case hfo => first | rfl | kernel_rfl); (case hli => first | rfl | kernel_rfl)))
local macro_rules | `(tactic| walk_at "wpAt") => `(tactic| (ks_step "exec Expr"; (refine ks_wpAt_Expr_any ?_ ?hint ?hsw); (case hint => first | rfl | kernel_rfl); (case hsw => first | rfl | kernel_rfl)))
local macro_rules | `(tactic| walk_at "getMethod ref") => `(tactic| (k_here; k_dflt (refine' method_b ?F ?X ?N ?so ?hx ?ho ?hm ?md ?hn ?_; (case F => k_asm); (case X => k_asm); (case N => k_asm); (case so => k_mem); (case hx => k_mem); (case ho => k_is); (case hm => ks_is); (case md => first | exact mdp_contains | exact mdp_getitem | exact mdp_get | exact mdp_setdefault | exact mdp_pop | exact mdp_popitem | exact mdp_setitem | exact mdp_delitem | exact mdp_init); (case hn => decide); intro q' h' t' F' N' l1; (replace l1 := allNe_of l1; simp only [AllNe, and_true] at l1))))
local macro_rules | `(tactic| walk_at "call ref") => `(tactic| (k_here; k_dflt (first
  | (refine' kb_contains ?F ?X ?N ?q ?x ?E ?s ?_; (case F => k_asm); (case X => k_asm); (case N => k_asm); (case q => k_mem); (case x => k_mem); (case E => assumption); (case s => assumption))
  | (refine' kb_getitem ?F ?X ?N ?q ?x ?E ?s ?hA ?_ ?_; (case F => k_asm); (case X => k_asm); (case N => k_asm); (case q => k_mem); (case x => k_mem); (case E => assumption); (case s => assumption); (case hA => exact rfl); rotate_left; (intro v' t' e'); rotate_left; (intro e' h' x' hx'))
  | (refine' kb_get ?F ?X ?N ?q ?x ?E ?s ?_ ?_; (case F => k_asm); (case X => k_asm); (case N => k_asm); (case q => k_mem); (case x => k_mem); (case E => assumption); (case s => assumption); rotate_left; (intro v' t' e'); rotate_left; (intro e'))
  | (refine' kb_setdefault ?F ?X ?N ?q ?U ?E ?z ?s ?_ ?_; (case F => k_asm); (case X => k_asm); (case N => k_asm); (case q => k_mem); (case U => k_updF); (case E => assumption); (case z => assumption); (case s => assumption); rotate_left; (intro e' h' es' n' F' N' hE'; try dsimp only at N'); rotate_left; (intro v' t' e'))
  | (refine' kb_pop ?F ?X ?N ?q ?U ?E ?z ?s ?_ ?_; (case F => k_asm); (case X => k_asm); (case N => k_asm); (case q => k_mem); (case U => k_updF); (case E => assumption); (case z => assumption); (case s => assumption); rotate_left; (intro v' t' e' h' es' n' F' N' hE'; try dsimp only at N'); rotate_left; (intro e'))
  | (refine' kb_popitem ?F ?X ?N ?q ?U ?E ?z ?s ?hA ?_ ?_; (case F => k_asm); (case X => k_asm); (case N => k_asm); (case q => k_mem); (case U => k_updF); (case E => assumption); (case z => assumption); (case s => assumption); (case hA => exact rfl); rotate_left; (intro y' v' t1' t2' e' a' h' es' n' F' N' hE'; try dsimp only at N'); rotate_left; (intro e' h' x' t' hx'))
  | (refine' kb_setitem ?F ?X ?N ?q ?U ?E ?z ?_; (case F => k_asm); (case X => k_asm); (case N => k_asm); (case q => k_mem); (case U => k_updF); (case E => assumption); (case z => assumption); (intro h' es' n' F' N' hE'; try dsimp only at N'))
  | (refine' kb_delitem ?F ?X ?N ?q ?U ?E ?z ?s ?hA ?_ ?_; (case F => k_asm); (case X => k_asm); (case N => k_asm); (case q => k_mem); (case U => k_updF); (case E => assumption); (case z => assumption); (case s => assumption); (case hA => exact rfl); rotate_left; (intro v' e' h' es' n' F' N' hE'; try dsimp only at N'); rotate_left; (intro e' h' x' hx')))))
local macro_rules | `(tactic| walk_at "And") => `(tactic| ((with_reducible show BoundP _ _ _ _ _ ∧ _); refine ⟨boundP_of (by k_asm) (by k_mem), ?_⟩; try dsimp only [List.nil_append, List.cons_append]))
local macro_rules | `(tactic| walk_at "call builtin:str.upper") => `(tactic| (k_here; (show wpAny _ _ (call (Value.builtin "str.upper") [Value.str _ _]) _ _ _); (refine KXw.upper (by assumption) (by assumption) ?_); intro t' k'))
local macro_rules | `(tactic| walk_at "leaving ref") => `(tactic| (k_here; first
  | (refine' leave_newX ?k5 ?k6 ?k1 ?k0 ?k2 ?k3 ?_; (case k0 => assumption); (case k1 => assumption); (case k2 => assumption); (case k3 => k_asm); (case k5 => exact rfl); (case k6 => exact rfl); k_whole; intro h' R' U'; (try dsimp only at R' U' ⊢))
  | (refine' leave_onX ?k5 ?k1 ?k2 ?k3 ?k4 ?_; (case k3 => assumption); (case k1 => assumption); (case k4 => assumption); (case k2 => assumption); (case k5 => exact rfl); k_whole; intro h' R' U'; (try dsimp only at R' U' ⊢))))

local macro_rules | `(tactic| walk_at "my_sub") => `(tactic| (intro p hp; first | exact hp | exact .tail _ hp | exact .tail _ (.tail _ hp) | exact .tail _ (.tail _ (.tail _ hp)) | exact .tail _ (.tail _ (.tail _ (.tail _ hp))) | exact .tail _ (.tail _ (.tail _ (.tail _ (.tail _ hp))))))
local macro_rules | `(tactic| walk_at "my_sub2") => `(tactic| (intro p hp; rcases List.mem_cons.mp hp with rfl | hp; (exact List.Mem.head _); (apply List.Mem.tail; revert hp; revert p; walk_at "my_sub")))
local macro_rules | `(tactic| walk_at "call builtin:hasattr") => `(tactic| (k_here; (with_reducible show wpAny _ _ (call (Value.builtin "hasattr") [Value.ref _, Value.str _ _]) _ _ _); k_dflt (refine' ln_has (knd := PySem.strKind PP _) ?F ?X ?N ?p ?d ?_; (case F => k_asm); (case X => k_asm); (case N => k_asm); (case p => k_mem); (case d => assumption); intro h' F' N')))
local macro_rules | `(tactic| walk_at "call builtin:iter") => `(tactic| (k_here; (with_reducible show wpAny _ _ (call (Value.builtin "iter") [Value.ref _]) _ _ _); k_dflt (refine' ln_iter (knd := PySem.strKind PP _) ?F ?X ?N ?v ?p ?d ?_; (case F => k_asm); (case X => k_asm); (case N => k_asm); (case v => k_mem); (case p => k_mem); (case d => assumption); intro it' ep' h' hep' F' N' l1; (replace l1 := allNe_of l1; simp only [AllNe, and_true] at l1))))
local macro_rules | `(tactic| walk_at "pyIter ref") => `(tactic| ((with_reducible show wpAny _ _ (pyIter (Value.ref _)) (fun it s₂ => TurnsAt _ _ _ _ _ _ _ _ _ it s₂) _ _); (rename Fr _ _ _ _ => lF'); (rename News _ _ _ _ => lN'); (with_unfolding_all refine' my_items (knd := PySem.strKind PP _) (xs := _) ?hh lF' lN' ?p ?d ?ep ?off ?hx ?hl ?_); (case hh => exact rfl); (case p => k_mem); (case d => assumption); (case ep => assumption); (case off => ktu_offI); (case hx => first | exact items_nil | exact items_one); (case hl => exact rfl); clear lF' lN'))
local macro_rules | `(tactic| walk_at "exec For Tuple Name cons nil") => `(tactic| (k_here; (rename Fr _ _ _ _ => lF'); (with_unfolding_all refine' For_turns lF' ?_; k_whole)))
section
variable {prog : Program} {w : World} {A A₀ : Around} {s : Shared} {K : Frag} {L : Addr} {h₀ base : Heap} {m mg mb : Str → Option Value} {news : List (Addr × Obj)} {p : Program} {loose : List Str} {mean : ExcName → Option Value}
theorem peek_push {α : Type} {M : Model} {E : Value → Shared → Prop} {Q : α → Shared → Prop} {o : Obj} (X : K.In s.heap) :
    ∀ (t : Sem α) (g : Addr → Sem α), peekA K ⟨M.prog, M.w.params⟩ t = some (o, g) → wpAny M A (g s.heap.objs.size) Q E { s with heap := s.heap.push o } → wpAny M A t Q E s := by
  intro t
  induction t <;> intro g e q
  case alloc ob k _ =>
    have hk : ob = o ∧ k = g := by simpa [peekA] using e
    exact wpAny_bind (m := alloc ob) (wpAny_alloc (by rw [hk.1, hk.2]; exact q))
  case load a _ k ih =>
    unfold peekA at e
    cases hl : K.lookup a with
    | none => rw [hl] at e; cases e
    | some ob => rw [hl] at e; exact fun Γ p hΓ => ⟨ob, X _ _ hl, ih ob g e q Γ p hΓ⟩
  case ask k ih => exact fun Γ p hΓ => ih _ g e q Γ p hΓ
  case rule _ k ih => exact fun Γ p hΓ => ih () g e q Γ p hΓ
  case point _ k ih => exact fun Γ p hΓ => ih () g e q Γ p hΓ
  all_goals cases e
theorem code_bothK {env : Env} {outer : List Env} {R : Result → Shared → Prop} {name qual : Str} {params : Arguments} {body : List Stmt} {scope : Scope} {dV kV doc pm cdv ct oc : Value} {an od : Option Addr} {osl : Array (Option Value)} {f : Addr} {args : Args} {vs : List Value} {binds : Addr → Addr → List (Str × Value)} {g₁ : Addr → Sem (List (Str × Value))} {g₂ : Addr → Addr → Sem (List (Str × Value))}
    (B : Below A₀ base outer h₀) (F : Fr h₀ L s.heap m) (X₀ : K.In h₀) (N : News h₀ L s.heap news) (T : Top p loose mean mg mb h₀) (hA : A.frames = some (env :: outer)) (hf : env.frame = some L) (hke : env.scope.kind = .function)
    (ho : K.lookup f = some ⟨oc, od, .func (fnOf name qual params body scope dV kV doc pm an cdv ct), osl⟩) (hcd : codeIn K cdv qual = true) (hroom : A.depth < recursionLimit)
    (hv : args.pos.drop (params.posonlyargs.length + params.args.length) = vs)
    (hp : peekA K ⟨prog, w.params⟩ (bindArgs (fnOf name qual params body scope dV kV doc pm an cdv ct) args) = some (({ cls := .type "tuple", data := .seq vs.toArray } : Obj), g₁))
    (hp₂ : ∀ D, peekA K ⟨prog, w.params⟩ (g₁ D) = some (dictOf [] 0, g₂ D))
    (hk₂ : ∀ C D, g₂ C D = pure (binds C D))
    (hloc : ∀ C D, ∀ y ∈ binds C D, scope.names.lookup y.1 = some .local)
    (h : ∀ C D o g L' h₁ tk, (∀ b ob, s.heap.get? b = some ob → b ∉ news.map (·.1) → g.get? b = some ob) → (∀ p ∈ news, p.1 < C) → C < D → (D == sysModules) = false → o.IsDictOf (strKind prog w) [] → Fr h₀ L g m → Fr g L' h₁ (fun y => (binds C D).reverse.lookup y) →
      News g L' h₁ ((D, o) :: (C, ({ cls := .type "tuple", data := .seq vs.toArray } : Obj)) :: news) → Below A base (env :: outer) g → K.In g → Top p loose mean mg mb g →
      wpAny (model prog w) (A.deeper (envOf qual scope L' f cdv)) (execs body (envOf qual scope L' f cdv))
        (fun fl s' => LeaveK h₀ L m g R (match fl with | .ret v => v | _ => .none) s')
        (fun e s' => wpAny (model prog w) (A.deeper (envOf qual scope L' f cdv)) (leaving (envOf qual scope L' f cdv) e) (fun _ s'' => R (.error e) s'') (fun e' s'' => R (.error e') s'') s')
        { s with heap := h₁, toks := tk })
    (hco : scope.isCoroutine = false) (hgen : scope.isGenerator = false) (hk : scope.kind = .function)
    (hcell : ∀ x ∈ scope.names, x.2 ≠ .cell) : codeAny (model prog w) A (.call (.ref f) args) R s := by
  have _ := hv
  refine codeAny_call_function (fd := fnOf name qual params body scope dV kV doc pm an cdv ct) (body := body) hroom ((X₀.keeps F.keep) _ _ ho) rfl hco hgen rfl (codeRec_of (X₀.keeps F.keep) hcd) ?_
  have F' := F.push ({ cls := .type "tuple", data := .seq vs.toArray } : Obj)
  have N' := News.push F N ({ cls := .type "tuple", data := .seq vs.toArray } : Obj) rfl
  refine peek_push (X₀.keeps F.keep) _ g₁ hp ?_
  have F'' := F'.push (dictOf [] 0)
  have N'' := News.push F' N' (dictOf [] 0) rfl
  refine peek_push (s := { s with heap := s.heap.push ({ cls := .type "tuple", data := .seq vs.toArray } : Obj) }) (X₀.keeps F'.keep) _ (g₂ s.heap.objs.size) (hp₂ _) ?_
  rw [hk₂]
  refine wpAny_pure ?_
  have lt1 : ∀ b ob, s.heap.get? b = some ob → b < s.heap.objs.size := fun b ob e => Heap.lt_size e
  have up : ∀ b ob, s.heap.get? b = some ob → ((s.heap.push ({ cls := .type "tuple", data := .seq vs.toArray } : Obj)).push (dictOf [] 0)).get? b = some ob := fun b ob e => Heap.get?_push_of_some _ (Heap.get?_push_of_some _ e)
  have sz : (s.heap.push ({ cls := .type "tuple", data := .seq vs.toArray } : Obj)).objs.size = s.heap.objs.size + 1 := Heap.size_push ..
  generalize hC : s.heap.objs.size = C at *
  generalize hD : (s.heap.push ({ cls := .type "tuple", data := .seq vs.toArray } : Obj)).objs.size = D at *
  generalize (s.heap.push ({ cls := .type "tuple", data := .seq vs.toArray } : Obj)).push (dictOf [] 0) = h'' at *
  obtain ⟨FG, BG, st, lv⟩ := groundX (s := { s with heap := h'' }) (R := R) B F'' N'' hA hf hke
  refine wpAny_newFunctionEnv (s := { s with heap := h'' }) hcell (hloc _ _) (fun h₃ hns₀ hsb₀ => ⟨(T.nolimit.keeps F''.keep).fresh _ hsb₀, codeAny_func ?_⟩) hk
  have hk₁ : ∀ b o, h''.get? b = some o → h₃.get? b = some o := fun b o e => hsb₀.extBut b o (Nat.ne_of_lt (Heap.lt_size e)) (Heap.get?_push_of_some _ e)
  show wpAny (model prog w) (A.deeper (envOf qual scope h''.objs.size f cdv)) (execs body (envOf qual scope h''.objs.size f cdv)) _ _ _
  refine wpAny_mono (h C D (dictOf [] 0) _ h''.objs.size h₃ _ (fun b ob e hb => hideAll_get _ (up b ob e) ?_) (fun p hp => lt1 _ _ (N p hp).1) (Nat.lt_of_lt_of_le (Nat.lt_succ_self C) (Nat.le_of_eq sz.symm)) ?_ ?_ FG ⟨hns₀, fun b o e => hk₁ b o (of_hideAll _ e), Nat.le_of_eq (hideAll_size _ _)⟩
    (fun p hp => ⟨hk₁ _ _ (N'' p hp).1, Nat.ne_of_lt (Heap.lt_size (N'' p hp).1), hideAll_none _ (List.mem_map_of_mem hp)⟩) BG (X₀.keeps st) (T.keeps st)) (fun fl s' hl => lv _ _ hl) fun _ _ y => y
  · have := lt1 b ob e
    intro hm
    rcases List.mem_cons.mp hm with q | hm
    · exact absurd (Nat.lt_of_le_of_lt (Nat.le_trans (Nat.le_succ C) (Nat.le_of_eq sz.symm)) (show D < C from (show b = D from q) ▸ this)) (Nat.lt_irrefl C)
    · rcases List.mem_cons.mp hm with q | hm
      · exact absurd (show C < C from (show b = C from q) ▸ this) (Nat.lt_irrefl C)
      · exact hb hm
  · have := F'.notModules (modules_low T.nolimit)
    rw [hD] at this
    exact this
  · exact ⟨#[], 0, ⟨rfl, rfl, rfl⟩, rfl, (fun e he => by simp at he), PySem.Pairs.nil, List.nodup_nil⟩
end
section
variable {h₀ g h h' : Heap} {L L' : Addr} {m' : Str → Option Value} {news news' l : List (Addr × Obj)} {told : Addr} {o o' : Obj} {gg : Obj → List (Addr × Obj)}
theorem keep_of (N0 : News h₀ L h ((told, o) :: l)) (hg : ∀ b ob, h.get? b = some ob → b ∉ ((told, o) :: l).map (·.1) → g.get? b = some ob) (F' : Fr g L' h' m') (N' : News h₀ L h' news') (hs : ∀ p ∈ l, p ∈ news') :
    ∀ b ob, b ≠ told → h.get? b = some ob → h'.get? b = some ob := fun b ob hb e => by
  by_cases hm : b ∈ l.map (·.1)
  · obtain ⟨p, hp, rfl⟩ := List.mem_map.mp hm
    have := (N0 p (.tail _ hp)).1
    rw [e] at this
    cases this
    exact (N' p (hs p hp)).1
  · refine F'.keep b ob (hg b ob e fun q => ?_)
    rcases List.mem_cons.mp q with q | q
    · exact hb q
    · exact hm q
theorem frame_back (N : News h₀ L h news) (U : UpdF told o news gg) (k : ∀ b ob, b ≠ told → h.get? b = some ob → h'.get? b = some ob) (ht : h'.get? told = some o') : News h₀ L h' (gg o') := by
  obtain ⟨pre, post, e1, e2, p1, p2⟩ := U.split
  rw [e2]
  rw [e1] at N
  have n1 := N (told, o) (by simp)
  intro p hp
  rcases List.mem_append.mp hp with hp | hp
  · have z := N p (List.mem_append_left _ hp)
    exact ⟨k _ _ (p1 p hp) z.1, z.2⟩
  · rcases List.mem_cons.mp hp with rfl | hp
    · exact ⟨ht, n1.2⟩
    · have z := N p (List.mem_append_right _ (.tail _ hp))
      exact ⟨k _ _ (p2 p hp) z.1, z.2⟩
end
theorem News.mem_at {h₀ h : Heap} {L a : Addr} {o : Obj} {news : List (Addr × Obj)} (N : News h₀ L h news) (hm : (a, o) ∈ news) : h.get? a = some o := (N _ hm).1
local macro_rules | `(tactic| walk_at "my_units") => `(tactic| ((try simp only [units_in1, PySem.Around.deeper_units, Around.mark_units, units_caller]); (try simp only [Around.deeper]); omega))
local macro_rules | `(tactic| walk_at "call ref") => `(tactic| (k_here; k_dflt (first
  | (refine' g_setitem ?hA0 ?hA ?hcr ?hcu ?B ?F ?X ?N ?U ?hm ?T ?hf ?hk ?hdx ?hE ?hxs ?hup ?hul ?hsz ?_; (case hA0 => exact rfl); (case hA => exact rfl); (case hcr => k_room); (case hcu => walk_at "my_units"); (case B => k_asm); (case F => k_asm); (case X => k_asm); (case N => k_asm); (case U => k_updF); (case hm => k_mem); (case T => k_asm); (case hf => exact rfl); (case hk => exact rfl); (case hdx => first | assumption | k_ne); (case hE => assumption); (case hxs => assumption); (case hup => assumption); (case hul => assumption); (case hsz => assumption); (intro h' tk' es' n' q0' F' N'; try dsimp only at N')))))

theorem c_update0 {w : World} {A₀ : Around} {base h₀ : Heap} {outer : List Env} {env : Env} {d u : Nat} {gs : Option (List Code)} {L : Addr} {m mg mb : Str → Option Value} {s : Shared} {p : Program} {loose : List Str} {mean : ExcName → Option Value}
    {told dx : Addr} {es : List DictEntry} {n : Nat} {od : Obj} {c : Ents} {Q : Value → Shared → Prop} {E : Value → Shared → Prop} 
    (hcr : d + 40 < recursionLimit) (hcu : u + 200 < cLine)
    (B : Below A₀ base outer h₀) (F : Fr h₀ L s.heap m) (X₀ : (hd.heap_39 w.params).In h₀) (N : News h₀ L s.heap ((told, cdObj dx es n) :: (dx, od) :: [])) (T : Top p loose mean mg mb h₀)
    (hf : env.frame = some L) (hk : env.scope.kind = .function) (hdx : dx ≠ told) (hE : EK w es c) (hxs : (told == sysModules) = false) 
    (hQ : ∀ h' tk, Fr h₀ L h' m → (∀ b ob, b ≠ told → s.heap.get? b = some ob → h'.get? b = some ob) → h'.get? told = some (cdObj dx es n) → Q .none { s with heap := h', toks := tk }) :
    codeAny (model PP w) ⟨none, d, some (env :: outer), gs, u⟩ (.call (.ref 132) ⟨[.ref told], []⟩) (fun r s' => match r with | .ok (.ret v) => Q v s' | .ok _ => False | .error e => E e s') s := by
  have _fill : PySem.Challenge.rw_bl0005_01 = PySem.Challenge.rw_bl0005_01 ∧ hd.heap_39 = hd.heap_39 := by k_fill; exact ⟨rfl, rfl⟩
  refine' code_bothK B F X₀ N T rfl hf hk ?k6 ?k7 ?k8 ?kV ?kP ?kS ?kT ?kB ?_ ?c2 ?c3 ?c4 ?c5
  (case k6 => k_is)
  (case k7 => k_is)
  (case k8 => k_room)
  (case kV => kp_lit)
  (case kP => exact rfl)
  (case kS => exact fun _ => rfl)
  (case kT => exact fun _ _ => rfl)
  (case kB => exact fun _ _ => locs rfl)
  (case c5 => decide)
  (case c2 => exact rfl)
  (case c3 => exact rfl)
  (case c4 => exact rfl)
  intro C' D' o' g' L' h' tk' hg l1 l2 lo' hs' FG' F' N' B' X' T'
  (try k_lt l1)
  (try k_lt2 l2)
  (try dsimp only)
  (try k_lift B')

  k_steps
  all_goals first
    | exact hQ _ _ (by assumption) (keep_of N hg (by assumption) (by assumption) (SubL.mem (by k_subL))) (News.mem_at (a := told) (by assumption) (by k_mem))

theorem c_update1 {w : World} {A₀ : Around} {base h₀ : Heap} {outer : List Env} {env : Env} {d u : Nat} {gs : Option (List Code)} {L : Addr} {m mg mb : Str → Option Value} {s : Shared} {p : Program} {loose : List Str} {mean : ExcName → Option Value}
    {told dx : Addr} {es : List DictEntry} {n : Nat} {od : Obj} {c : Ents} {Q : Value → Shared → Prop} {E : Value → Shared → Prop} {x ux : Str} {v : Int} {tv : Tok} {d1 : Addr} {od1 : Obj}
    (hcr : d + 40 < recursionLimit) (hcu : u + 200 < cLine)
    (B : Below A₀ base outer h₀) (F : Fr h₀ L s.heap m) (X₀ : (hd.heap_39 w.params).In h₀) (N : News h₀ L s.heap ((told, cdObj dx es n) :: (dx, od) :: (d1, od1) :: [])) (T : Top p loose mean mg mb h₀)
    (hf : env.frame = some L) (hk : env.scope.kind = .function) (hdx : dx ≠ told) (hE : EK w es c) (hxs : (told == sysModules) = false) (hup : Txt.upper x = ux) (hul : PySem.Builtin.Str.tooLong (Txt.upper x).length = false) (hsz : c.length ≤ 1000) (hd1 : od1.IsDictOf (PySem.strKind PP w) [(x, Value.int v tv)]) (ls1 : (d1 == sysModules) = false) (hdt : d1 ≠ told)
    (hQ : ∀ h' tk es' n', EK w es' (cput c ux v) → Fr h₀ L h' m → (∀ b ob, b ≠ told → s.heap.get? b = some ob → h'.get? b = some ob) → h'.get? told = some (cdObj dx es' n') → Q .none { s with heap := h', toks := tk }) :
    wpAny (model PP w) ⟨none, d, some (env :: outer), gs, u⟩ (call (.ref 132) [.ref told, .ref d1]) Q E s := by
  have _fill : PySem.Challenge.rw_bl0005_01 = PySem.Challenge.rw_bl0005_01 ∧ hd.heap_39 = hd.heap_39 := by k_fill; exact ⟨rfl, rfl⟩
  refine wpAny_call ?_
  refine' code_bothK B F X₀ N T rfl hf hk ?k6 ?k7 ?k8 ?kV ?kP ?kS ?kT ?kB ?_ ?c2 ?c3 ?c4 ?c5
  (case k6 => k_is)
  (case k7 => k_is)
  (case k8 => k_room)
  (case kV => kp_lit)
  (case kP => exact rfl)
  (case kS => exact fun _ => rfl)
  (case kT => exact fun _ _ => rfl)
  (case kB => exact fun _ _ => locs rfl)
  (case c5 => decide)
  (case c2 => exact rfl)
  (case c3 => exact rfl)
  (case c4 => exact rfl)
  intro C' D' o' g' L' h' tk' hg l1 l2 lo' hs' FG' F' N' B' X' T'
  (try k_lt l1)
  (try k_lt2 l2)
  (try dsimp only)
  (try k_lift B')

  k_steps
  all_goals first
    | exact hQ _ _ _ _ (by assumption) (by assumption) (keep_of N hg (by assumption) (by assumption) (SubL.mem (by k_subL))) (News.mem_at (a := told) (by assumption) (by k_mem))

theorem g_update0 {w : World} {A₀ : Around} {base h₀ : Heap} {outer : List Env} {env : Env} {A : Around} {L : Addr} {m mg mb : Str → Option Value} {s : Shared} {p : Program} {loose : List Str} {mean : ExcName → Option Value}
    {told dx : Addr} {es : List DictEntry} {n : Nat} {od : Obj} {c : Ents} {news : List (Addr × Obj)} {gg : Obj → List (Addr × Obj)} {Q : Value → Shared → Prop} {E : Value → Shared → Prop} 
    (hA0 : A.handled = none) (hA : A.frames = some (env :: outer)) (hcr : A.depth + 40 < recursionLimit) (hcu : A.units + 200 < cLine)
    (B : Below A₀ base outer h₀) (F : Fr h₀ L s.heap m) (X₀ : (hd.heap_39 w.params).In h₀) (N : News h₀ L s.heap news) (U : UpdF told (cdObj dx es n) news gg) (hm : (dx, od) ∈ news) (T : Top p loose mean mg mb h₀)
    (hf : env.frame = some L) (hk : env.scope.kind = .function) (hdx : dx ≠ told) (hE : EK w es c) (hxs : (told == sysModules) = false)  
    (hQ : ∀ h' tk, Fr h₀ L h' m → News h₀ L h' news → Q .none { s with heap := h', toks := tk }) :
    codeAny (model PP w) A (.call (.ref 132) ⟨[.ref told], []⟩) (fun r s' => match r with | .ok (.ret v) => Q v s' | .ok _ => False | .error e => E e s') s := by
  obtain ⟨hd', d, fr, gs, u⟩ := A
  dsimp only at hA0 hA hcr hcu
  subst hA0 hA
  have mt := upd_mem U
  refine c_update0 (od := od) hcr hcu B F X₀ (news_sub N fun p hp => ?_) T hf hk hdx hE hxs fun h' tk F' k ht => hQ h' tk F' (upd_same U ▸ frame_back N U k ht)
  rcases List.mem_cons.mp hp with rfl | hp
  · exact mt
  · rw [List.mem_singleton.mp hp]; exact hm

theorem gm_update0 {w : World} {A₀ : Around} {base h₀ : Heap} {outer : List Env} {env : Env} {A : Around} {L : Addr} {m mg mb : Str → Option Value} {s : Shared} {p : Program} {loose : List Str} {mean : ExcName → Option Value}
    {told dx : Addr} {es : List DictEntry} {n : Nat} {od : Obj} {c : Ents} {news : List (Addr × Obj)} {gg : Obj → List (Addr × Obj)} {Q : Value → Shared → Prop} {E : Value → Shared → Prop} 
    (hA0 : A.handled = none) (hA : A.frames = some (env :: outer)) (hcr : A.depth + 40 < recursionLimit) (hcu : A.units + 200 < cLine)
    (B : Below A₀ base outer h₀) (F : Fr h₀ L s.heap m) (X₀ : (hd.heap_39 w.params).In h₀) (N : News h₀ L s.heap news) (U : UpdF told (cdObj dx es n) news gg) (hm : (dx, od) ∈ news) (T : Top p loose mean mg mb h₀)
    (hf : env.frame = some L) (hk : env.scope.kind = .function) (hdx : dx ≠ told) (hE : EK w es c) (hxs : (told == sysModules) = false)  
    {q : Addr} (hqm : (q, methodObj (.ref 132) (.ref told)) ∈ news) (hQ : ∀ h' tk, Fr h₀ L h' m → News h₀ L h' news → Q .none { s with heap := h', toks := tk }) :
    wpAny (model PP w) A (call (.ref q) []) Q E s := by
  refine call_meth N hqm ?_
  exact g_update0 (Q := Q) (E := E) hA0 hA hcr hcu B F X₀ N U hm T hf hk hdx hE hxs hQ

theorem g_update1 {w : World} {A₀ : Around} {base h₀ : Heap} {outer : List Env} {env : Env} {A : Around} {L : Addr} {m mg mb : Str → Option Value} {s : Shared} {p : Program} {loose : List Str} {mean : ExcName → Option Value}
    {told dx : Addr} {es : List DictEntry} {n : Nat} {od : Obj} {c : Ents} {news : List (Addr × Obj)} {gg : Obj → List (Addr × Obj)} {Q : Value → Shared → Prop} {E : Value → Shared → Prop} {x ux : Str} {v : Int} {tv : Tok} {d1 : Addr} {od1 : Obj}
    (hA0 : A.handled = none) (hA : A.frames = some (env :: outer)) (hcr : A.depth + 40 < recursionLimit) (hcu : A.units + 200 < cLine)
    (B : Below A₀ base outer h₀) (F : Fr h₀ L s.heap m) (X₀ : (hd.heap_39 w.params).In h₀) (N : News h₀ L s.heap news) (U : UpdF told (cdObj dx es n) news gg) (hm : (dx, od) ∈ news) (T : Top p loose mean mg mb h₀)
    (hf : env.frame = some L) (hk : env.scope.kind = .function) (hdx : dx ≠ told) (hE : EK w es c) (hxs : (told == sysModules) = false) (hup : Txt.upper x = ux) (hul : PySem.Builtin.Str.tooLong (Txt.upper x).length = false) (hsz : c.length ≤ 1000) (hd1 : od1.IsDictOf (PySem.strKind PP w) [(x, Value.int v tv)]) (ls1 : (d1 == sysModules) = false) (hm1 : (d1, od1) ∈ news) (hdt : d1 ≠ told)
    (hS : ∀ h' tk es' n', EK w es' (cput c ux v) → Fr h₀ L h' m → News h₀ L h' (gg (cdObj dx es' n')) → Q .none { s with heap := h', toks := tk }) :
    wpAny (model PP w) A (call (.ref 132) [.ref told, .ref d1]) Q E s := by
  obtain ⟨hd', d, fr, gs, u⟩ := A
  dsimp only at hA0 hA hcr hcu
  subst hA0 hA
  have mt := upd_mem U
  refine c_update1 (n := n) (od := od) (od1 := od1) hcr hcu B F X₀ (news_sub N fun p hp => ?_) T hf hk hdx hE hxs hup hul hsz hd1 ls1 hdt fun h' tk es' n' q F' k ht => hS h' tk es' n' q F' (frame_back N U k ht)
  rcases List.mem_cons.mp hp with rfl | hp
  · exact mt
  · rcases List.mem_cons.mp hp with rfl | hp
    · exact hm
    · rw [List.mem_singleton.mp hp]; exact hm1
end Mine
end
section
open PySem PySem.W PyProof.Rows PySem.Calls
set_option maxRecDepth 100000
set_option maxHeartbeats 8000000
theorem Mine.walkResetS13 : True := by w_top off; trivial
namespace Mine

theorem sg_init : (Manifest.sig_dict.lookup "__init__").isSome = true := by decide +kernel
theorem sq_sg_init : Manifest.signature? "dict.__init__" = Manifest.sig_dict.lookup "__init__" := signature?_of (id := "dict.__init__") (n := ['_', '_', 't', 'i', 'n', 'i', '_', '_']) (o := ['t', 'c', 'i', 'd']) (by kernel_rfl) PySem.F.owner_dict
theorem bk_init : builtinKind "dict.__init__" = some .slot := by decide +kernel
theorem ca_init (x : Addr) : Bind.checkArgs "dict.__init__" ((Manifest.sig_dict.lookup "__init__").get sg_init) ⟨[.ref x], []⟩ = pure () := by kernel_rfl
theorem pl_init : plainId "dict.__init__" = true := by decide +kernel
theorem en_init : entryFor table "dict.__init__" = some Builtin.«dict.__init__» := entryFor_of_tree (by kernel_rfl)
theorem kb_init {w : World} {A : Around} {E : Value → Shared → Prop} {s : Shared} {h₀ : Heap} {L : Addr} {m : Str → Option Value} {news : List (Addr × Obj)} {x dx q : Addr} {es : List DictEntry} {n : Nat} {Q : Value → Shared → Prop}
    (F : Fr h₀ L s.heap m) (X₀ : (hd.heap_39 w.params).In h₀) (N : News h₀ L s.heap news) (hq : (q, bObj "method-wrapper" (.builtin "dict.__init__") x) ∈ news) (hx : (x, cdObj dx es n) ∈ news)
    (h : Q .none s) : wpAny (model PP w) A (call (.ref q) []) Q E s := by
  obtain ⟨hh, g, d, tk, os⟩ := s
  have X := X₀.keeps F.keep
  have hq1 := (N _ hq).1
  have hx1 := (N _ hx).1
  have hN : NOk w hh x := nok_told X hx1
  refine call_bound (id := "dict.__init__") (T := "method-wrapper") (b := Builtin.«dict.__init__») (args := []) (.inr rfl) hq1 ?chk ?pl ?en ?bd
  case chk =>
    intro Q' E' z
    exact check_s (id := "dict.__init__") (args := []) sq_sg_init sg_init bk_init (ca_init x) z
  case pl => exact pl_init
  case en => exact en_init
  case bd =>
    unfold Builtin.«dict.__init__»
    refine wpAny_bind ?_
    unfold Builtin.Dict.selfAndRest
    refine wpAny_bind (hN _ _ _ _ _ _ _ rfl ?_)
    show wpAny _ _ (pure (x, [])) _ _ _
    refine wpAny_pure ?_
    show wpAny _ _ (Builtin.Dict.addKeywords x [] >>= _) _ _ _
    refine wpAny_bind ?_
    unfold Builtin.Dict.addKeywords
    first
      | exact wpAny_pure (wpAny_pure ⟨_, rfl, h⟩)
      | (refine wpAny_bind (wpAny_pure ?_); exact wpAny_pure ⟨_, rfl, h⟩)
local macro_rules | `(tactic| k_inst) => `(tactic| (refine' inst_cd ?N ?h1 ?h2; (case N => k_asm); (case h1 => k_mem); (case h2 => k_mem)))
local macro_rules | `(tactic| k_room) => `(tactic| ((try simp only [depth_mark, depth_under_make, depth_under_kw, depth_in1, depth_deeper, depth_caller]); (try simp only [Around.deeper]); omega))
local macro_rules | `(tactic| k_all) => `(tactic| assumption)
local macro_rules | `(tactic| walk_at "wpAt") => `(tactic| (ks_step "eval Call"; (refine at_MethodCall ?_ ?hfo ?hli); (case hfo => first | rfl | kernel_rfl); (case hli => first | rfl | kernel_rfl)))
local macro_rules | `(tactic| walk_at "wpAt") => `(tactic| (ks_step "exec Expr"; (refine ks_wpAt_Expr_any ?_ ?hint ?hsw); (case hint => first | rfl | kernel_rfl); (case hsw => first | rfl | kernel_rfl)))
local macro_rules | `(tactic| walk_at "getMethod ref") => `(tactic| (k_here; k_dflt (refine' method_b ?F ?X ?N ?so ?hx ?ho ?hm ?md ?hn ?_; (case F => k_asm); (case X => k_asm); (case N => k_asm); (case so => k_mem); (case hx => k_mem); (case ho => k_is); (case hm => ks_is); (case md => first | exact mdp_contains | exact mdp_getitem | exact mdp_get | exact mdp_setdefault | exact mdp_pop | exact mdp_popitem | exact mdp_setitem | exact mdp_delitem | exact mdp_init); (case hn => decide); intro q' h' t' F' N' l1; (replace l1 := allNe_of l1; simp only [AllNe, and_true] at l1))))
local macro_rules | `(tactic| walk_at "callWith ref") => `(tactic| (k_here; (try dsimp only); k_dflt (first
  | ((with_reducible show wpAny _ _ (callWith _ _ _ (backTo _ (starEach (_ :: _) _)) _) _ _ _); refine' callWith_B ?k1 ?k2 ?k3 ?k4 ?_; (case k1 => k_asm); (case k2 => k_mem); (case k3 => decide); (case k4 => decide))
  | ((with_reducible show wpAny _ _ (callWith _ _ _ (backTo _ (starEach [] _)) _) _ _ _); refine' callWith_B0 ?k1 ?k2 ?k3 ?k4 ?_; (case k1 => k_asm); (case k2 => k_mem); (case k3 => decide); (case k4 => decide); try dsimp only [List.nil_append, List.cons_append]))))
local macro_rules | `(tactic| k_ne) => `(tactic| (refine neN ?_; (try dsimp only); first | with_reducible assumption | with_reducible exact Ne.symm (by assumption) | with_reducible exact Nat.ne_of_lt (by assumption) | with_reducible exact Nat.ne_of_gt (by assumption)))
local macro_rules | `(tactic| k_in) => `(tactic| first | with_reducible assumption | with_reducible exact Frag.In.keeps (by assumption) (Fr.keep (by assumption)))
local macro_rules | `(tactic| walk_at "callWith ref") => `(tactic| (k_here; k_dflt (first
  | ((with_reducible show wpAny _ _ (callWith _ _ _ (backTo _ (starEach (_ :: _) _)) _) _ _ _); refine' callWith_K ?k1 ?k2 ?_; (case k1 => k_asm); (case k2 => k_is); k_whole)
  | ((with_reducible show wpAny _ _ (callWith _ _ _ (backTo _ (starEach [] _)) _) _ _ _); refine' callWith_K0 ?k1 ?k2 ?_; (case k1 => k_in); (case k2 => k_is); k_whole))))
local macro_rules | `(tactic| walk_at "eval Name") => `(tactic| (k_here; (fail_if_success (with_reducible show wpAny _ _ (eval (Expr.Name _ _) (compEnvC _ _ _ _)) _ _ _)); k_dflt (first
  | (refine' nameX_L ?F ?v ?_ ?a ?b; (case F => k_asm); (case a => rfl); (case b => rfl); (case v => rfl); k_whole)
  | (refine' nameX_C ?N ?c ?m ?d ?_ ?a ?b; (case a => rfl); (case b => rfl); (case N => k_asm); (case c => rfl); (case m => k_mem); (case d => k_asm); k_whole)
  | (refine' nameX_K ?F ?X ?T ?e ?_ ?a ?b; (case F => k_asm); (case X => k_asm); (case T => k_asm); (case a => rfl); (case b => rfl); (case e => k_is); k_whole)
  | (refine' nameX_B ?F ?X ?T ?e ?v ?n ?_ ?a ?b; (case F => k_asm); (case X => k_asm); (case T => k_asm); (case a => rfl); (case b => rfl); (case e => k_is); (case v => boot_fast); (case n => decide); k_whole))))
local macro_rules | `(tactic| walk_at "call ref") => `(tactic| (k_here; k_dflt (first
  | (refine' kb_contains ?F ?X ?N ?q ?x ?E ?s ?_; (case F => k_asm); (case X => k_asm); (case N => k_asm); (case q => k_mem); (case x => k_mem); (case E => assumption); (case s => assumption))
  | (refine' kb_getitem ?F ?X ?N ?q ?x ?E ?s ?hA ?_ ?_; (case F => k_asm); (case X => k_asm); (case N => k_asm); (case q => k_mem); (case x => k_mem); (case E => assumption); (case s => assumption); (case hA => exact rfl); rotate_left; (intro v' t' e'); rotate_left; (intro e' h' x' hx'))
  | (refine' kb_get ?F ?X ?N ?q ?x ?E ?s ?_ ?_; (case F => k_asm); (case X => k_asm); (case N => k_asm); (case q => k_mem); (case x => k_mem); (case E => assumption); (case s => assumption); rotate_left; (intro v' t' e'); rotate_left; (intro e'))
  | (refine' kb_setdefault ?F ?X ?N ?q ?U ?E ?z ?s ?_ ?_; (case F => k_asm); (case X => k_asm); (case N => k_asm); (case q => k_mem); (case U => k_updF); (case E => assumption); (case z => assumption); (case s => assumption); rotate_left; (intro e' h' es' n' F' N' hE'; try dsimp only at N'); rotate_left; (intro v' t' e'))
  | (refine' kb_pop ?F ?X ?N ?q ?U ?E ?z ?s ?_ ?_; (case F => k_asm); (case X => k_asm); (case N => k_asm); (case q => k_mem); (case U => k_updF); (case E => assumption); (case z => assumption); (case s => assumption); rotate_left; (intro v' t' e' h' es' n' F' N' hE'; try dsimp only at N'); rotate_left; (intro e'))
  | (refine' kb_popitem ?F ?X ?N ?q ?U ?E ?z ?s ?hA ?_ ?_; (case F => k_asm); (case X => k_asm); (case N => k_asm); (case q => k_mem); (case U => k_updF); (case E => assumption); (case z => assumption); (case s => assumption); (case hA => exact rfl); rotate_left; (intro y' v' t1' t2' e' a' h' es' n' F' N' hE'; try dsimp only at N'); rotate_left; (intro e' h' x' t' hx'))
  | (refine' kb_setitem ?F ?X ?N ?q ?U ?E ?z ?_; (case F => k_asm); (case X => k_asm); (case N => k_asm); (case q => k_mem); (case U => k_updF); (case E => assumption); (case z => assumption); (intro h' es' n' F' N' hE'; try dsimp only at N'))
  | (refine' kb_delitem ?F ?X ?N ?q ?U ?E ?z ?s ?hA ?_ ?_; (case F => k_asm); (case X => k_asm); (case N => k_asm); (case q => k_mem); (case U => k_updF); (case E => assumption); (case z => assumption); (case s => assumption); (case hA => exact rfl); rotate_left; (intro v' e' h' es' n' F' N' hE'; try dsimp only at N'); rotate_left; (intro e' h' x' hx')))))
local macro_rules | `(tactic| walk_at "And") => `(tactic| ((with_reducible show BoundP _ _ _ _ _ ∧ _); refine ⟨boundP_of (by k_asm) (by k_mem), ?_⟩; try dsimp only [List.nil_append, List.cons_append]))
local macro_rules | `(tactic| walk_at "call builtin:str.upper") => `(tactic| (k_here; (show wpAny _ _ (call (Value.builtin "str.upper") [Value.str _ _]) _ _ _); (refine KXw.upper (by assumption) (by assumption) ?_); intro t' k'))
local macro_rules | `(tactic| walk_at "leaving ref") => `(tactic| (k_here; first
  | (refine' leave_newX ?k5 ?k6 ?k1 ?k0 ?k2 ?k3 ?_; (case k0 => assumption); (case k1 => assumption); (case k2 => assumption); (case k3 => k_asm); (case k5 => exact rfl); (case k6 => exact rfl); k_whole; intro h' R' U'; (try dsimp only at R' U' ⊢))
  | (refine' leave_onX ?k5 ?k1 ?k2 ?k3 ?k4 ?_; (case k3 => assumption); (case k1 => assumption); (case k4 => assumption); (case k2 => assumption); (case k5 => exact rfl); k_whole; intro h' R' U'; (try dsimp only at R' U' ⊢))))

local macro_rules | `(tactic| walk_at "my_sub") => `(tactic| (intro p hp; first | exact hp | exact .tail _ hp | exact .tail _ (.tail _ hp) | exact .tail _ (.tail _ (.tail _ hp)) | exact .tail _ (.tail _ (.tail _ (.tail _ hp))) | exact .tail _ (.tail _ (.tail _ (.tail _ (.tail _ hp))))))
local macro_rules | `(tactic| walk_at "my_sub2") => `(tactic| (intro p hp; rcases List.mem_cons.mp hp with rfl | hp; (exact List.Mem.head _); (apply List.Mem.tail; revert hp; revert p; walk_at "my_sub")))
local macro_rules | `(tactic| walk_at "call builtin:hasattr") => `(tactic| (k_here; (with_reducible show wpAny _ _ (call (Value.builtin "hasattr") [Value.ref _, Value.str _ _]) _ _ _); k_dflt (refine' ln_has (knd := PySem.strKind PP _) ?F ?X ?N ?p ?d ?_; (case F => k_asm); (case X => k_asm); (case N => k_asm); (case p => k_mem); (case d => assumption); intro h' F' N')))
local macro_rules | `(tactic| walk_at "call builtin:iter") => `(tactic| (k_here; (with_reducible show wpAny _ _ (call (Value.builtin "iter") [Value.ref _]) _ _ _); k_dflt (refine' ln_iter (knd := PySem.strKind PP _) ?F ?X ?N ?v ?p ?d ?_; (case F => k_asm); (case X => k_asm); (case N => k_asm); (case v => k_mem); (case p => k_mem); (case d => assumption); intro it' ep' h' hep' F' N' l1; (replace l1 := allNe_of l1; simp only [AllNe, and_true] at l1))))
local macro_rules | `(tactic| walk_at "pyIter ref") => `(tactic| ((with_reducible show wpAny _ _ (pyIter (Value.ref _)) (fun it s₂ => TurnsAt _ _ _ _ _ _ _ _ _ it s₂) _ _); (rename Fr _ _ _ _ => lF'); (rename News _ _ _ _ => lN'); (with_unfolding_all refine' my_items (knd := PySem.strKind PP _) (xs := _) ?hh lF' lN' ?p ?d ?ep ?off ?hx ?hl ?_); (case hh => exact rfl); (case p => k_mem); (case d => assumption); (case ep => assumption); (case off => ktu_offI); (case hx => first | exact items_nil | exact items_one); (case hl => exact rfl); clear lF' lN'))
local macro_rules | `(tactic| walk_at "exec For Tuple Name cons nil") => `(tactic| (k_here; (rename Fr _ _ _ _ => lF'); (with_unfolding_all refine' For_turns lF' ?_; k_whole)))
local macro_rules | `(tactic| walk_at "my_units") => `(tactic| ((try simp only [units_in1, PySem.Around.deeper_units, Around.mark_units, units_caller]); (try simp only [Around.deeper]); omega))
local macro_rules | `(tactic| walk_at "call ref") => `(tactic| (k_here; k_dflt (first
  | (refine' g_setitem ?hA0 ?hA ?hcr ?hcu ?B ?F ?X ?N ?U ?hm ?T ?hf ?hk ?hdx ?hE ?hxs ?hup ?hul ?hsz ?_; (case hA0 => exact rfl); (case hA => exact rfl); (case hcr => k_room); (case hcu => walk_at "my_units"); (case B => k_asm); (case F => k_asm); (case X => k_asm); (case N => k_asm); (case U => k_updF); (case hm => k_mem); (case T => k_asm); (case hf => exact rfl); (case hk => exact rfl); (case hdx => first | assumption | k_ne); (case hE => assumption); (case hxs => assumption); (case hup => assumption); (case hul => assumption); (case hsz => assumption); (intro h' tk' es' n' q0' F' N'; try dsimp only at N')))))
local macro_rules | `(tactic| walk_at "call ref") => `(tactic| (k_here; k_dflt (first
  | (refine' gm_update0 ?hA0 ?hA ?hcr ?hcu ?B ?F ?X ?N ?U ?hm ?T ?hf ?hk ?hdx ?hE ?hxs ?hqm ?_; (case hA0 => exact rfl); (case hA => exact rfl); (case hcr => k_room); (case hcu => walk_at "my_units"); (case B => k_asm); (case F => k_asm); (case X => k_asm); (case N => k_asm); (case hqm => k_mem); (case U => k_updF); (case hm => k_mem); (case T => k_asm); (case hf => exact rfl); (case hk => exact rfl); (case hdx => first | assumption | k_ne); (case hE => assumption); (case hxs => assumption); intro h' tk' F' N'; try dsimp only at N')
  | (refine' g_update1 ?hA0 ?hA ?hcr ?hcu ?B ?F ?X ?N ?U ?hm ?T ?hf ?hk ?hdx ?hE ?hxs ?hup ?hul ?hsz ?hd1 ?ls1 ?hm1 ?hdt ?_; (case hA0 => exact rfl); (case hA => exact rfl); (case hcr => k_room); (case hcu => walk_at "my_units"); (case B => k_asm); (case F => k_asm); (case X => k_asm); (case N => k_asm); (case U => k_updF); (case hm => k_mem); (case T => k_asm); (case hf => exact rfl); (case hk => exact rfl); (case hdx => first | assumption | k_ne); (case hE => assumption); (case hxs => assumption); (case hup => assumption); (case hul => assumption); (case hsz => assumption); (case hd1 => assumption); (case ls1 => assumption); (case hm1 => k_mem); (case hdt => k_ne); intro h' tk' es' n' q0' F' N'; try dsimp only at N'))))

theorem under_tc (d u : Nat) (l : List Env) (gs : Option (List Code)) : ∃ gs' k, (⟨none, d, some l, gs, u⟩ : Around).under (.builtin "type.__call__" ⟨[.ref 163], []⟩) = ⟨none, d + 1, some l, gs', u + k⟩ ∧ k ≤ 50 := by
  refine ⟨_, _, rfl, by decide +kernel⟩
local macro_rules | `(tactic| walk_at "call ref") => `(tactic| (k_here; k_dflt (refine' kb_init ?F ?X ?N ?q ?x ?_; (case F => k_asm); (case X => k_asm); (case N => k_asm); (case q => k_mem); (case x => k_mem))))
local macro_rules | `(tactic| walk_at "eval Call") => `(tactic| (k_here; (refine eval_method_star ?_ ?hfew ?hb); (case hfew => exact rfl); (case hb => exact rfl)))
local macro_rules | `(tactic| walk_at "getAttr ref") => `(tactic| (k_here; (refine' getAttr_update ?F ?X ?N ?x ?d ?_; (case F => k_asm); (case X => k_asm); (case N => k_asm); (case x => k_mem); (case d => k_mem)); intro q' h' t' F' N' l1; (replace l1 := allNe_of l1; simp only [AllNe, and_true] at l1)))
local macro_rules | `(tactic| walk_at "callWith ref") => `(tactic| (k_here; (with_reducible show wpAny _ _ (callWith _ (Value.ref _) _ (backTo _ (starEach [Expr.Starred _ _] _)) (backToKw _ (keywordEach [_] _))) _ _ _); (refine' callWith_starkwM ?N ?q ?fi ?_; (case N => k_asm); (case q => k_mem); (case fi => k_is))))
local macro_rules | `(tactic| walk_at "mergedKeywords") => `(tactic| (k_here; (refine' merged_empty ?F ?N ?m ?s ?e ?_; (case F => k_asm); (case N => k_asm); (case m => k_mem); (case s => k_asm); (case e => (intro s1 Q1 F1 q1; exact wpAny_Name (wpAny_loadName_local rfl rfl F1.ns rfl q1) (by decide)))); intro d' h' F' N' l1; (try k_lt l1)))
local macro_rules | `(tactic| walk_at "keywordsIn") => `(tactic| (k_here; (refine' kwin_empty ?g ?_; (case g => exact News.mem_at (by k_asm) (by k_mem)))))
theorem c_new {w : World} {A : Around} {base h₀ : Heap} {outer : List Env} {env : Env} {d u : Nat} {gs : Option (List Code)} {A₀ : Around} {L : Addr} {m mg mb : Str → Option Value} {s : Shared} {p : Program} {loose : List Str} {mean : ExcName → Option Value}
    {news : List (Addr × Obj)} {Q : Value → Shared → Prop} {E : Value → Shared → Prop}
    (hcr : d + 80 < recursionLimit) (hcu : u + 300 < cLine)
    (B : Below A₀ base outer h₀) (F : Fr h₀ L s.heap m) (X₀ : (hd.heap_39 w.params).In h₀) (N : News h₀ L s.heap news) (T : Top p loose mean mg mb h₀)
    (hf : env.frame = some L) (hk : env.scope.kind = .function)
    (hQ : ∀ h' tk x dx, Fr h₀ L h' m → News h₀ L h' ((x, cdObj dx [] 0) :: (dx, dictOf [] 0) :: news) → (x == sysModules) = false → dx < x → (dx == sysModules) = false → (∀ p ∈ news, p.1 < dx) → Q (.ref x) { s with heap := h', toks := tk }) :
    wpAny (model PP w) ⟨none, d, some (env :: outer), gs, u⟩ (call (.ref 163) []) Q E s := by
  have _fill : PySem.Challenge.rw_bl0005_01 = PySem.Challenge.rw_bl0005_01 ∧ hd.heap_39 = hd.heap_39 := by k_fill; exact ⟨rfl, rfl⟩
  obtain ⟨hh, g, dr, tk, os⟩ := s
  refine wpAny_call (make163 (X₀.keeps F.keep) ?_)
  have F1 := (F.push (dictOf [] 0)).push (cdObj hh.objs.size [] 0)
  have N1 : News h₀ L ((hh.push (dictOf [] 0)).push (cdObj hh.objs.size [] 0)) ((hh.objs.size + 1, cdObj hh.objs.size [] 0) :: (hh.objs.size, dictOf [] 0) :: news) := by
    have := (N.push F (dictOf [] 0)).push (F.push _) (cdObj hh.objs.size [] 0)
    rwa [Heap.size_push] at this
  have ls9 : (hh.objs.size == sysModules) = false := F.notModules (modules_low T.nolimit)
  have hxs : (hh.objs.size + 1 == sysModules) = false := by
    have := (F.push (dictOf [] 0)).notModules (modules_low T.nolimit)
    rwa [Heap.size_push] at this
  have hdx : hh.objs.size ≠ hh.objs.size + 1 := Nat.ne_of_lt (Nat.lt_succ_self _)
  have lt : hh.objs.size < hh.objs.size + 1 := Nat.lt_succ_self _
  have ne2 : ∀ p ∈ news, p.1 < hh.objs.size := fun p hp => Heap.lt_size (N p hp).1
  have hE : EK w ([] : List DictEntry) ([] : Ents) := EK.nil
  generalize hh.objs.size = dx at F1 N1 ls9 hxs hdx lt ne2 ⊢
  generalize (hh.push (dictOf [] 0)).push (cdObj dx [] 0) = h1 at F1 N1 ⊢
  generalize dx + 1 = x at N1 hxs hdx lt ⊢
  have hall : ∀ p ∈ ((dx, dictOf [] 0) :: news), p.1 ≠ x := fun p hp => by
    rcases List.mem_cons.mp hp with rfl | hp
    · exact hdx
    · exact Nat.ne_of_lt (Nat.lt_trans (ne2 p hp) lt)
  obtain ⟨gs1, k1, eA, hk1⟩ := under_tc d u (env :: outer) gs
  rw [eA]
  clear eA
  refine' codeS_both B F1 X₀ N1 T rfl hf hk ?k6 ?k7 ?k8 ?kP ?kS ?kT ?kB ?_ ?c2 ?c3 ?c4 ?c5
  (case k6 => k_is)
  (case k7 => k_is)
  (case k8 => k_room)
  (case kP => exact rfl)
  (case kS => exact fun _ => rfl)
  (case kT => exact fun _ _ => rfl)
  (case kB => exact fun _ _ => locs rfl)
  (case c5 => decide)
  (case c2 => exact rfl)
  (case c3 => exact rfl)
  (case c4 => exact rfl)
  intro C' D' g' L' h' tk' l1 l2 lo' FG' F' N' B' X' T' l3
  (try k_lt l1)
  (try k_lt2 l2)
  (try dsimp only)
  (try k_lift B')
  k_steps
  all_goals exact hQ _ _ _ _ (by assumption) (news_sub (by assumption) (fun p hp => by repeat (first | exact hp | refine List.Mem.tail _ ?_))) hxs lt ls9 ne2
end Mine
end
section
open PySem PySem.W PyProof.Rows PySem.Calls
set_option maxRecDepth 100000
set_option maxHeartbeats 8000000
theorem Mine.walkResetS14 : True := by w_top off; trivial
namespace Mine
local macro_rules | `(tactic| k_ne) => `(tactic| (refine neN ?_; (try dsimp only); first | with_reducible assumption | with_reducible exact Ne.symm (by assumption) | with_reducible exact Nat.ne_of_lt (by assumption) | with_reducible exact Nat.ne_of_gt (by assumption)))
local macro_rules | `(tactic| k_in) => `(tactic| first | with_reducible assumption | with_reducible exact Frag.In.keeps (by assumption) (Fr.keep (by assumption)))
local macro_rules | `(tactic| walk_at "callWith ref") => `(tactic| (k_here; k_dflt (first
  | ((with_reducible show wpAny _ _ (callWith _ _ _ (backTo _ (starEach (_ :: _) _)) _) _ _ _); refine' callWith_K ?k1 ?k2 ?_; (case k1 => k_asm); (case k2 => k_is); k_whole)
  | ((with_reducible show wpAny _ _ (callWith _ _ _ (backTo _ (starEach [] _)) _) _ _ _); refine' callWith_K0 ?k1 ?k2 ?_; (case k1 => k_in); (case k2 => k_is); k_whole))))
local macro_rules | `(tactic| walk_at "eval Name") => `(tactic| (k_here; (fail_if_success (with_reducible show wpAny _ _ (eval (Expr.Name _ _) (compEnvC _ _ _ _)) _ _ _)); k_dflt (first
  | (refine' nameX_L ?F ?v ?_ ?a ?b; (case F => k_asm); (case a => rfl); (case b => rfl); (case v => rfl); k_whole)
  | (refine' nameX_C ?N ?c ?m ?d ?_ ?a ?b; (case a => rfl); (case b => rfl); (case N => k_asm); (case c => rfl); (case m => k_mem); (case d => k_asm); k_whole)
  | (refine' nameX_K ?F ?X ?T ?e ?_ ?a ?b; (case F => k_asm); (case X => k_asm); (case T => k_asm); (case a => rfl); (case b => rfl); (case e => k_is); k_whole)
  | (refine' nameX_B ?F ?X ?T ?e ?v ?n ?_ ?a ?b; (case F => k_asm); (case X => k_asm); (case T => k_asm); (case a => rfl); (case b => rfl); (case e => k_is); (case v => boot_fast); (case n => decide); k_whole))))

theorem delItem_own {w : World} {A : Around} {E : Value → Shared → Prop} {s : Shared} {h₀ : Heap} {L x C f : Addr} {K : Frag} {m : Str → Option Value} {ox : Obj} {od : Option Obj} {i : Value} {Q : Unit → Shared → Prop} (F : Fr h₀ L s.heap m) (X₀ : K.In h₀) (I : InstAt s.heap x ox C od) (hq : noSeq K C = true) (hs : findIn K (.ref C) "__delitem__" = some (some (.ref f))) (hf : isFn K (.ref f) = true)
    (h : wpAny (model PP w) A (call (.ref f) [.ref x, i]) (fun _ s' => Q () s') E s) : wpAny (model PP w) A (delItem (.ref x) i) Q E s := by
  have X := X₀.keeps F.keep
  unfold delItem sequenceKey
  refine wpAny_holding (wpAny_bind (wpAny_bind (I.type.here ?_)))
  refine wpAny_bind ((anyM_none X hq).here ?_)
  rw [if_pos (show (!false) = true from rfl)]
  exact wpAny_pure (wpAny_bind (special_fn X I hs (beq_iff_eq.mp hf) (wpAny_mono h (fun _ _ z => wpAny_pure z) fun _ _ z => z)))

inductive Res
  | none
  | int (v : Int)
  | pair (b : Bool) (v : Int)
  | item (k : Str) (v : Int)
  deriving DecidableEq
def deed (kind : Int) (c : Ents) (u : Str) (v : Int) : Option Res × Ents :=
  if kind = 0 then (some .none, cput c u v)
  else if kind = 1 then (match cget c u with | none => (none, c) | some _ => (some .none, cdel c u))
  else if kind = 2 then (match cget c u with | none => (none, c) | some w => (some (.int w), c))
  else if kind = 3 then (match cget c u with | none => (some (.int v), cput c u v) | some w => (some (.int w), c))
  else if kind = 4 then (match cget c u with | none => (some (.int v), c) | some w => (some (.int w), cdel c u))
  else if kind = 5 then (match cget c u with | none => (some (.pair false v), c) | some w => (some (.pair true w), c))
  else if kind = 6 then (some .none, cput c u v)
  else (match c.getLast? with | none => (none, c) | some (k, w) => (some (.item k w), c.dropLast))
/-- a flat value stands for a result -/
def RF (r : Res) (val : Value) : Prop := match r with
  | .none => val = .none
  | .int v => ∃ t, val = .int v t
  | _ => False
/-- an object stands for a result -/
def RR (r : Res) (o : Obj) : Prop := match r with
  | .pair b v => ∃ t, o = { cls := .type "tuple", data := .seq #[.bool b, .int v t] }
  | .item k v => ∃ t₁ t₂, o = { cls := .type "tuple", data := .seq #[.str k t₁, .int v t₂] }
  | _ => False

section
variable {kind v w : Int} {c : Ents} {u k : Str} {t tv t1 t2 : Tok}
theorem deed0 (h0 : kind = 0) : deed kind c u v = (some .none, cput c u v) := by unfold deed; rw [if_pos h0]
theorem deed1s (h0 : kind ≠ 0) (h1 : kind = 1) (hc : cget c u = some w) : deed kind c u v = (some .none, cdel c u) := by unfold deed; rw [if_neg h0, if_pos h1, hc]
theorem deed1n (h0 : kind ≠ 0) (h1 : kind = 1) (hc : cget c u = none) : deed kind c u v = (none, c) := by unfold deed; rw [if_neg h0, if_pos h1, hc]
theorem deed2s (h0 : kind ≠ 0) (h1 : kind ≠ 1) (h2 : kind = 2) (hc : cget c u = some w) : deed kind c u v = (some (.int w), c) := by unfold deed; rw [if_neg h0, if_neg h1, if_pos h2, hc]
theorem deed2n (h0 : kind ≠ 0) (h1 : kind ≠ 1) (h2 : kind = 2) (hc : cget c u = none) : deed kind c u v = (none, c) := by unfold deed; rw [if_neg h0, if_neg h1, if_pos h2, hc]
theorem deed3s (h0 : kind ≠ 0) (h1 : kind ≠ 1) (h2 : kind ≠ 2) (h3 : kind = 3) (hc : cget c u = some w) : deed kind c u v = (some (.int w), c) := by unfold deed; rw [if_neg h0, if_neg h1, if_neg h2, if_pos h3, hc]
theorem deed3n (h0 : kind ≠ 0) (h1 : kind ≠ 1) (h2 : kind ≠ 2) (h3 : kind = 3) (hc : cget c u = none) : deed kind c u v = (some (.int v), cput c u v) := by unfold deed; rw [if_neg h0, if_neg h1, if_neg h2, if_pos h3, hc]
theorem deed4s (h0 : kind ≠ 0) (h1 : kind ≠ 1) (h2 : kind ≠ 2) (h3 : kind ≠ 3) (h4 : kind = 4) (hc : cget c u = some w) : deed kind c u v = (some (.int w), cdel c u) := by unfold deed; rw [if_neg h0, if_neg h1, if_neg h2, if_neg h3, if_pos h4, hc]
theorem deed4n (h0 : kind ≠ 0) (h1 : kind ≠ 1) (h2 : kind ≠ 2) (h3 : kind ≠ 3) (h4 : kind = 4) (hc : cget c u = none) : deed kind c u v = (some (.int v), c) := by unfold deed; rw [if_neg h0, if_neg h1, if_neg h2, if_neg h3, if_pos h4, hc]
theorem deed5s (h0 : kind ≠ 0) (h1 : kind ≠ 1) (h2 : kind ≠ 2) (h3 : kind ≠ 3) (h4 : kind ≠ 4) (h5 : kind = 5) (hc : cget c u = some w) : deed kind c u v = (some (.pair true w), c) := by unfold deed; rw [if_neg h0, if_neg h1, if_neg h2, if_neg h3, if_neg h4, if_pos h5, hc]
theorem deed5n (h0 : kind ≠ 0) (h1 : kind ≠ 1) (h2 : kind ≠ 2) (h3 : kind ≠ 3) (h4 : kind ≠ 4) (h5 : kind = 5) (hc : cget c u = none) : deed kind c u v = (some (.pair false v), c) := by unfold deed; rw [if_neg h0, if_neg h1, if_neg h2, if_neg h3, if_neg h4, if_pos h5, hc]
theorem deed6 (h0 : kind ≠ 0) (h1 : kind ≠ 1) (h2 : kind ≠ 2) (h3 : kind ≠ 3) (h4 : kind ≠ 4) (h5 : kind ≠ 5) (h6 : kind = 6) : deed kind c u v = (some .none, cput c u v) := by unfold deed; rw [if_neg h0, if_neg h1, if_neg h2, if_neg h3, if_neg h4, if_neg h5, if_pos h6]
theorem deed7s (h0 : kind ≠ 0) (h1 : kind ≠ 1) (h2 : kind ≠ 2) (h3 : kind ≠ 3) (h4 : kind ≠ 4) (h5 : kind ≠ 5) (h6 : kind ≠ 6) (hl : c.getLast? = some (k, w)) : deed kind c u v = (some (.item k w), c.dropLast) := by unfold deed; rw [if_neg h0, if_neg h1, if_neg h2, if_neg h3, if_neg h4, if_neg h5, if_neg h6, hl]
theorem deed7n (h0 : kind ≠ 0) (h1 : kind ≠ 1) (h2 : kind ≠ 2) (h3 : kind ≠ 3) (h4 : kind ≠ 4) (h5 : kind ≠ 5) (h6 : kind ≠ 6) (hl : c = []) : deed kind c u v = (none, c) := by unfold deed; rw [if_neg h0, if_neg h1, if_neg h2, if_neg h3, if_neg h4, if_neg h5, if_neg h6, hl]; rfl
theorem rfNone : RF .none Value.none := rfl
theorem rfInt : RF (.int v) (.int v t) := ⟨t, rfl⟩
theorem rrPairN (h : cget c u = none) : RR (.pair false v) { cls := .type "tuple", data := .seq #[.bool (cget c u).isSome, .int v t] } := ⟨t, by rw [h]; rfl⟩
theorem rrPairS (h : cget c u = some w) : RR (.pair true w) { cls := .type "tuple", data := .seq #[.bool (cget c u).isSome, .int w t] } := ⟨t, by rw [h]; rfl⟩
theorem rrItem : RR (.item k v) { cls := .type "tuple", data := .seq #[.str k t1, .int v t2] } := ⟨t1, t2, rfl⟩
end
local macro_rules | `(tactic| k_inst) => `(tactic| (refine' inst_cd ?N ?h1 ?h2; (case N => k_asm); (case h1 => k_mem); (case h2 => k_mem)))
local macro_rules | `(tactic| k_room) => `(tactic| ((try simp only [depth_mark, depth_under_make, depth_under_kw, depth_in1, depth_deeper, depth_caller]); (try simp only [Around.deeper]); omega))
local macro_rules | `(tactic| k_all) => `(tactic| assumption)
local macro_rules | `(tactic| walk_at "wpAt") => `(tactic| (ks_step "eval Call"; (refine at_MethodCall ?_ ?hfo ?hli); (case hfo => first | rfl | kernel_rfl); (case hli => first | rfl | kernel_rfl)))
local macro_rules | `(tactic| walk_at "wpAt") => `(tactic| (ks_step "exec Expr"; (refine ks_wpAt_Expr_any ?_ ?hint ?hsw); (case hint => first | rfl | kernel_rfl); (case hsw => first | rfl | kernel_rfl)))
local macro_rules | `(tactic| walk_at "getMethod ref") => `(tactic| (k_here; k_dflt (refine' method_b ?F ?X ?N ?so ?hx ?ho ?hm ?md ?hn ?_; (case F => k_asm); (case X => k_asm); (case N => k_asm); (case so => k_mem); (case hx => k_mem); (case ho => k_is); (case hm => ks_is); (case md => first | exact mdp_contains | exact mdp_getitem | exact mdp_get | exact mdp_setdefault | exact mdp_pop | exact mdp_popitem | exact mdp_setitem | exact mdp_delitem | exact mdp_init); (case hn => decide); intro q' h' t' F' N' l1; (replace l1 := allNe_of l1; simp only [AllNe, and_true] at l1))))
local macro_rules | `(tactic| walk_at "call ref") => `(tactic| (k_here; k_dflt (first
  | (refine' kb_contains ?F ?X ?N ?q ?x ?E ?s ?_; (case F => k_asm); (case X => k_asm); (case N => k_asm); (case q => k_mem); (case x => k_mem); (case E => assumption); (case s => assumption))
  | (refine' kb_getitem ?F ?X ?N ?q ?x ?E ?s ?hA ?_ ?_; (case F => k_asm); (case X => k_asm); (case N => k_asm); (case q => k_mem); (case x => k_mem); (case E => assumption); (case s => assumption); (case hA => exact rfl); rotate_left; (intro v' t' e'); rotate_left; (intro e' h' x' hx'))
  | (refine' kb_get ?F ?X ?N ?q ?x ?E ?s ?_ ?_; (case F => k_asm); (case X => k_asm); (case N => k_asm); (case q => k_mem); (case x => k_mem); (case E => assumption); (case s => assumption); rotate_left; (intro v' t' e'); rotate_left; (intro e'))
  | (refine' kb_setdefault ?F ?X ?N ?q ?U ?E ?z ?s ?_ ?_; (case F => k_asm); (case X => k_asm); (case N => k_asm); (case q => k_mem); (case U => k_updF); (case E => assumption); (case z => assumption); (case s => assumption); rotate_left; (intro e' h' es' n' F' N' hE'; try dsimp only at N'); rotate_left; (intro v' t' e'))
  | (refine' kb_pop ?F ?X ?N ?q ?U ?E ?z ?s ?_ ?_; (case F => k_asm); (case X => k_asm); (case N => k_asm); (case q => k_mem); (case U => k_updF); (case E => assumption); (case z => assumption); (case s => assumption); rotate_left; (intro v' t' e' h' es' n' F' N' hE'; try dsimp only at N'); rotate_left; (intro e'))
  | (refine' kb_popitem ?F ?X ?N ?q ?U ?E ?z ?s ?hA ?_ ?_; (case F => k_asm); (case X => k_asm); (case N => k_asm); (case q => k_mem); (case U => k_updF); (case E => assumption); (case z => assumption); (case s => assumption); (case hA => exact rfl); rotate_left; (intro y' v' t1' t2' e' a' h' es' n' F' N' hE'; try dsimp only at N'); rotate_left; (intro e' h' x' t' hx'))
  | (refine' kb_setitem ?F ?X ?N ?q ?U ?E ?z ?_; (case F => k_asm); (case X => k_asm); (case N => k_asm); (case q => k_mem); (case U => k_updF); (case E => assumption); (case z => assumption); (intro h' es' n' F' N' hE'; try dsimp only at N'))
  | (refine' kb_delitem ?F ?X ?N ?q ?U ?E ?z ?s ?hA ?_ ?_; (case F => k_asm); (case X => k_asm); (case N => k_asm); (case q => k_mem); (case U => k_updF); (case E => assumption); (case z => assumption); (case s => assumption); (case hA => exact rfl); rotate_left; (intro v' e' h' es' n' F' N' hE'; try dsimp only at N'); rotate_left; (intro e' h' x' hx')))))
local macro_rules | `(tactic| walk_at "And") => `(tactic| ((with_reducible show BoundP _ _ _ _ _ ∧ _); refine ⟨boundP_of (by k_asm) (by k_mem), ?_⟩; try dsimp only [List.nil_append, List.cons_append]))
local macro_rules | `(tactic| walk_at "call builtin:str.upper") => `(tactic| (k_here; (show wpAny _ _ (call (Value.builtin "str.upper") [Value.str _ _]) _ _ _); (refine KXw.upper (by assumption) (by assumption) ?_); intro t' k'))
local macro_rules | `(tactic| walk_at "leaving ref") => `(tactic| (k_here; first
  | (refine' leave_newX ?k5 ?k6 ?k1 ?k0 ?k2 ?k3 ?_; (case k0 => assumption); (case k1 => assumption); (case k2 => assumption); (case k3 => k_asm); (case k5 => exact rfl); (case k6 => exact rfl); k_whole; intro h' R' U'; (try dsimp only at R' U' ⊢))
  | (refine' leave_onX ?k5 ?k1 ?k2 ?k3 ?k4 ?_; (case k3 => assumption); (case k1 => assumption); (case k4 => assumption); (case k2 => assumption); (case k5 => exact rfl); k_whole; intro h' R' U'; (try dsimp only at R' U' ⊢))))

local macro_rules | `(tactic| walk_at "my_sub") => `(tactic| (intro p hp; first | exact hp | exact .tail _ hp | exact .tail _ (.tail _ hp) | exact .tail _ (.tail _ (.tail _ hp)) | exact .tail _ (.tail _ (.tail _ (.tail _ hp))) | exact .tail _ (.tail _ (.tail _ (.tail _ (.tail _ hp))))))
local macro_rules | `(tactic| walk_at "my_sub2") => `(tactic| (intro p hp; rcases List.mem_cons.mp hp with rfl | hp; (exact List.Mem.head _); (apply List.Mem.tail; revert hp; revert p; walk_at "my_sub")))
local macro_rules | `(tactic| walk_at "call builtin:hasattr") => `(tactic| (k_here; (with_reducible show wpAny _ _ (call (Value.builtin "hasattr") [Value.ref _, Value.str _ _]) _ _ _); k_dflt (refine' ln_has (knd := PySem.strKind PP _) ?F ?X ?N ?p ?d ?_; (case F => k_asm); (case X => k_asm); (case N => k_asm); (case p => k_mem); (case d => assumption); intro h' F' N')))
local macro_rules | `(tactic| walk_at "call builtin:iter") => `(tactic| (k_here; (with_reducible show wpAny _ _ (call (Value.builtin "iter") [Value.ref _]) _ _ _); k_dflt (refine' ln_iter (knd := PySem.strKind PP _) ?F ?X ?N ?v ?p ?d ?_; (case F => k_asm); (case X => k_asm); (case N => k_asm); (case v => k_mem); (case p => k_mem); (case d => assumption); intro it' ep' h' hep' F' N' l1; (replace l1 := allNe_of l1; simp only [AllNe, and_true] at l1))))
local macro_rules | `(tactic| walk_at "pyIter ref") => `(tactic| ((with_reducible show wpAny _ _ (pyIter (Value.ref _)) (fun it s₂ => TurnsAt _ _ _ _ _ _ _ _ _ it s₂) _ _); (rename Fr _ _ _ _ => lF'); (rename News _ _ _ _ => lN'); (with_unfolding_all refine' my_items (knd := PySem.strKind PP _) (xs := _) ?hh lF' lN' ?p ?d ?ep ?off ?hx ?hl ?_); (case hh => exact rfl); (case p => k_mem); (case d => assumption); (case ep => assumption); (case off => ktu_offI); (case hx => first | exact items_nil | exact items_one); (case hl => exact rfl); clear lF' lN'))
local macro_rules | `(tactic| walk_at "exec For Tuple Name cons nil") => `(tactic| (k_here; (rename Fr _ _ _ _ => lF'); (with_unfolding_all refine' For_turns lF' ?_; k_whole)))
local macro_rules | `(tactic| walk_at "my_units") => `(tactic| ((try simp only [units_in1, PySem.Around.deeper_units, Around.mark_units, units_caller]); (try simp only [Around.deeper]); omega))
local macro_rules | `(tactic| walk_at "call ref") => `(tactic| (k_here; k_dflt (first
  | (refine' g_has_key ?hA0 ?hA ?hcr ?hcu ?B ?F ?X ?N ?U ?hm ?T ?hf ?hk ?hdx ?hE ?hxs ?hup ?hul ?_; (case hA0 => exact rfl); (case hA => exact rfl); (case hcr => k_room); (case hcu => walk_at "my_units"); (case B => k_asm); (case F => k_asm); (case X => k_asm); (case N => k_asm); (case U => k_updF); (case hm => k_mem); (case T => k_asm); (case hf => exact rfl); (case hk => exact rfl); (case hdx => first | assumption | k_ne); (case hE => assumption); (case hxs => assumption); (case hup => assumption); (case hul => assumption); (intro h' tk'  F' N'; try dsimp only at N'))
  | (refine' g_contains ?hA0 ?hA ?hcr ?hcu ?B ?F ?X ?N ?U ?hm ?T ?hf ?hk ?hdx ?hE ?hxs ?hup ?hul ?_; (case hA0 => exact rfl); (case hA => exact rfl); (case hcr => k_room); (case hcu => walk_at "my_units"); (case B => k_asm); (case F => k_asm); (case X => k_asm); (case N => k_asm); (case U => k_updF); (case hm => k_mem); (case T => k_asm); (case hf => exact rfl); (case hk => exact rfl); (case hdx => first | assumption | k_ne); (case hE => assumption); (case hxs => assumption); (case hup => assumption); (case hul => assumption); (intro h' tk'  F' N'; try dsimp only at N'))
  | (refine' g_get ?hA0 ?hA ?hcr ?hcu ?B ?F ?X ?N ?U ?hm ?T ?hf ?hk ?hdx ?hE ?hxs ?hup ?hul ?_ ?_; (case hA0 => exact rfl); (case hA => exact rfl); (case hcr => k_room); (case hcu => walk_at "my_units"); (case B => k_asm); (case F => k_asm); (case X => k_asm); (case N => k_asm); (case U => k_updF); (case hm => k_mem); (case T => k_asm); (case hf => exact rfl); (case hk => exact rfl); (case hdx => first | assumption | k_ne); (case hE => assumption); (case hxs => assumption); (case hup => assumption); (case hul => assumption); (intro h' tk' q0' F' N'; try dsimp only at N'); rotate_left; (intro h' tk' v' tv' q0' F' N'; try dsimp only at N'); rotate_left)
  | (refine' g_getitem ?hA0 ?hA ?hcr ?hcu ?B ?F ?X ?N ?U ?hm ?T ?hf ?hk ?hdx ?hE ?hxs ?hup ?hul ?_ ?_; (case hA0 => exact rfl); (case hA => exact rfl); (case hcr => k_room); (case hcu => walk_at "my_units"); (case B => k_asm); (case F => k_asm); (case X => k_asm); (case N => k_asm); (case U => k_updF); (case hm => k_mem); (case T => k_asm); (case hf => exact rfl); (case hk => exact rfl); (case hdx => first | assumption | k_ne); (case hE => assumption); (case hxs => assumption); (case hup => assumption); (case hul => assumption); (intro h' tk' v' tv' q0' F' N'; try dsimp only at N'); rotate_left; (intro h' tk' e' gx' q0' F' U' R'; try dsimp only at R'); rotate_left)
  | (refine' g_setitem ?hA0 ?hA ?hcr ?hcu ?B ?F ?X ?N ?U ?hm ?T ?hf ?hk ?hdx ?hE ?hxs ?hup ?hul ?hsz ?_; (case hA0 => exact rfl); (case hA => exact rfl); (case hcr => k_room); (case hcu => walk_at "my_units"); (case B => k_asm); (case F => k_asm); (case X => k_asm); (case N => k_asm); (case U => k_updF); (case hm => k_mem); (case T => k_asm); (case hf => exact rfl); (case hk => exact rfl); (case hdx => first | assumption | k_ne); (case hE => assumption); (case hxs => assumption); (case hup => assumption); (case hul => assumption); (case hsz => assumption); (intro h' tk' es' n' q0' F' N'; try dsimp only at N'))
  | (refine' g_delitem ?hA0 ?hA ?hcr ?hcu ?B ?F ?X ?N ?U ?hm ?T ?hf ?hk ?hdx ?hE ?hxs ?hup ?hul ?hsz ?_ ?_; (case hA0 => exact rfl); (case hA => exact rfl); (case hcr => k_room); (case hcu => walk_at "my_units"); (case B => k_asm); (case F => k_asm); (case X => k_asm); (case N => k_asm); (case U => k_updF); (case hm => k_mem); (case T => k_asm); (case hf => exact rfl); (case hk => exact rfl); (case hdx => first | assumption | k_ne); (case hE => assumption); (case hxs => assumption); (case hup => assumption); (case hul => assumption); (case hsz => assumption); (intro h' tk' es' n' v' q0' q1' F' N'; try dsimp only at N'); rotate_left; (intro h' tk' e' gx' q0' F' U' R'; try dsimp only at R'); rotate_left)
  | (refine' g_setdefault ?hA0 ?hA ?hcr ?hcu ?B ?F ?X ?N ?U ?hm ?T ?hf ?hk ?hdx ?hE ?hxs ?hup ?hul ?hsz ?_ ?_; (case hA0 => exact rfl); (case hA => exact rfl); (case hcr => k_room); (case hcu => walk_at "my_units"); (case B => k_asm); (case F => k_asm); (case X => k_asm); (case N => k_asm); (case U => k_updF); (case hm => k_mem); (case T => k_asm); (case hf => exact rfl); (case hk => exact rfl); (case hdx => first | assumption | k_ne); (case hE => assumption); (case hxs => assumption); (case hup => assumption); (case hul => assumption); (case hsz => assumption); (intro h' tk' v' tv' q0' F' N'; try dsimp only at N'); rotate_left; (intro h' tk' es' n' q0' q1' F' N'; try dsimp only at N'); rotate_left)
  | (refine' g_pop ?hA0 ?hA ?hcr ?hcu ?B ?F ?X ?N ?U ?hm ?T ?hf ?hk ?hdx ?hE ?hxs ?hup ?hul ?hsz ?_ ?_; (case hA0 => exact rfl); (case hA => exact rfl); (case hcr => k_room); (case hcu => walk_at "my_units"); (case B => k_asm); (case F => k_asm); (case X => k_asm); (case N => k_asm); (case U => k_updF); (case hm => k_mem); (case T => k_asm); (case hf => exact rfl); (case hk => exact rfl); (case hdx => first | assumption | k_ne); (case hE => assumption); (case hxs => assumption); (case hup => assumption); (case hul => assumption); (case hsz => assumption); (intro h' tk' q0' F' N'; try dsimp only at N'); rotate_left; (intro h' tk' es' n' v' tv' q0' q1' F' N'; try dsimp only at N'); rotate_left)
  | (refine' g_popitem ?hA0 ?hA ?hcr ?hcu ?B ?F ?X ?N ?U ?hm ?T ?hf ?hk ?hdx ?hE ?hxs ?hsz ?_ ?_; (case hA0 => exact rfl); (case hA => exact rfl); (case hcr => k_room); (case hcu => walk_at "my_units"); (case B => k_asm); (case F => k_asm); (case X => k_asm); (case N => k_asm); (case U => k_updF); (case hm => k_mem); (case T => k_asm); (case hf => exact rfl); (case hk => exact rfl); (case hdx => first | assumption | k_ne); (case hE => assumption); (case hxs => assumption); (case hsz => assumption); (intro h' tk' es' n' k' v' t1' t2' a' q0' q1' F' N'; try dsimp only at N'); rotate_left; (intro h' tk' e' gx' q0' F' U' R'; try dsimp only at R'); rotate_left))))
local macro_rules | `(tactic| walk_at "call ref") => `(tactic| (k_here; k_dflt (first
  | (refine' gm_update0 ?hA0 ?hA ?hcr ?hcu ?B ?F ?X ?N ?U ?hm ?T ?hf ?hk ?hdx ?hE ?hxs ?hqm ?_; (case hA0 => exact rfl); (case hA => exact rfl); (case hcr => k_room); (case hcu => walk_at "my_units"); (case B => k_asm); (case F => k_asm); (case X => k_asm); (case N => k_asm); (case hqm => k_mem); (case U => k_updF); (case hm => k_mem); (case T => k_asm); (case hf => exact rfl); (case hk => exact rfl); (case hdx => first | assumption | k_ne); (case hE => assumption); (case hxs => assumption); intro h' tk' F' N'; try dsimp only at N')
  | (refine' g_update1 ?hA0 ?hA ?hcr ?hcu ?B ?F ?X ?N ?U ?hm ?T ?hf ?hk ?hdx ?hE ?hxs ?hup ?hul ?hsz ?hd1 ?ls1 ?hm1 ?hdt ?_; (case hA0 => exact rfl); (case hA => exact rfl); (case hcr => k_room); (case hcu => walk_at "my_units"); (case B => k_asm); (case F => k_asm); (case X => k_asm); (case N => k_asm); (case U => k_updF); (case hm => k_mem); (case T => k_asm); (case hf => exact rfl); (case hk => exact rfl); (case hdx => first | assumption | k_ne); (case hE => assumption); (case hxs => assumption); (case hup => assumption); (case hul => assumption); (case hsz => assumption); (case hd1 => assumption); (case ls1 => assumption); (case hm1 => k_mem); (case hdt => k_ne); intro h' tk' es' n' q0' F' N'; try dsimp only at N'))))
local macro_rules | `(tactic| walk_at "getMethod ref") => `(tactic| (k_here; k_dflt (refine' method_told (T := "function") ?F ?X ?N ?x ?d ?f ?t ?T ?_; (case F => k_asm); (case X => k_asm); (case N => k_asm); (case x => k_mem); (case d => k_mem); (case f => k_is); (case t => exact looks_typeIn (by k_in) (by k_is)); (case T => decide))))
local macro_rules | `(tactic| walk_at "delItem ref") => `(tactic| (k_here; (with_reducible show wpAny _ _ (delItem (Value.ref _) _) _ _ _); k_dflt (refine' delItem_own ?F ?X ?I ?hQ ?hS ?hF ?_; (case F => k_asm); (case X => k_asm); (case I => k_inst); (case hS => k_is); (case hF => k_is); (case hQ => k_is); k_whole)))
local macro_rules | `(tactic| walk_at "eval Dict") => `(tactic| (k_here; k_dflt (refine' kdn_eval (knd := PySem.strKind PP _) ?F ?N ?b ?a ?l ?e ?n ?_; (case F => k_asm); (case N => k_asm); (case b => exact Top.nolimit (by k_asm)); (case a => rfl); (case l => rfl); (case e => exact List.cons_ne_nil _ _); (case n => exact Nat.le_of_ble_eq_true rfl)); intro d' h' o' F' N' l1 lo' hd'; (try k_lt l1)))
local macro_rules | `(tactic| walk_at "KdnMade") => `(tactic| (k_here; k_dflt (refine' kdn_made_str ?F ?N ?U ?d ?k ?n ?_; (case F => k_asm); (case N => k_asm); (case U => k_updF); (case d => k_asm); (case k => rfl); (case n => exact List.nodup_cons.mpr ⟨List.not_mem_nil, List.nodup_nil⟩); intro h' o' F' N' hd'); (try dsimp only at N')))

theorem c_deed {w : World} {A₀ : Around} {base h₀ : Heap} {outer : List Env} {env : Env} {d u : Nat} {gs : Option (List Code)} {L : Addr} {m mg mb : Str → Option Value} {s : Shared} {p : Program} {loose : List Str} {mean : ExcName → Option Value}
    {told dx : Addr} {es : List DictEntry} {n : Nat} {c : Ents} {rest : List (Addr × Obj)} {Q : Value → Shared → Prop} {E : Value → Shared → Prop} {x ux : Str} {t : Tok} {kind v : Int} {tkd tv : Tok}
    (hcr : d + 100 < recursionLimit) (hcu : u + 400 < cLine)
    (B : Below A₀ base outer h₀) (F : Fr h₀ L s.heap m) (X₀ : (hd.heap_39 w.params).In h₀) (N : News h₀ L s.heap ((told, cdObj dx es n) :: (dx, dictOf [] 0) :: rest)) (T : Top p loose mean mg mb h₀)
    (hf : env.frame = some L) (hk : env.scope.kind = .function) (hr : ∀ p ∈ rest, p.1 ≠ told) (hdx : dx ≠ told) (hE : EK w es c) (hxs : (told == sysModules) = false) (hup : Txt.upper x = ux) (hul : PySem.Builtin.Str.tooLong (Txt.upper x).length = false) (hsz : c.length ≤ 1000)
    (hF : ∀ h' tk es' n' c' val r, deed kind c ux v = (some r, c') → RF r val → EK w es' c' → Fr h₀ L h' m → News h₀ L h' ((told, cdObj dx es' n') :: (dx, dictOf [] 0) :: rest) → Q val { s with heap := h', toks := tk })
    (hR : ∀ h' tk es' n' c' a o r, deed kind c ux v = (some r, c') → RR r o → EK w es' c' → Fr h₀ L h' m → News h₀ L h' ((a, o) :: (told, cdObj dx es' n') :: (dx, dictOf [] 0) :: rest) → Q (.ref a) { s with heap := h', toks := tk })
    (hX : ∀ h' tk e g', deed kind c ux v = (none, c) → Fr h₀ L g' m → g'.UpToSlots h' → RaisedN base (env :: outer) e (.type "KeyError") ((told, cdObj dx es n) :: (dx, dictOf [] 0) :: rest) h' → E (.ref e) { s with heap := h', toks := tk }) :
    wpAny (model PP w) ⟨none, d, some (env :: outer), gs, u⟩ (call (.ref 188) [.ref told, .int kind tkd, .str x t, .int v tv]) Q E s := by
  have _fill : PySem.Challenge.rw_bl0005_01 = PySem.Challenge.rw_bl0005_01 ∧ hd.heap_39 = hd.heap_39 := by k_fill; exact ⟨rfl, rfl⟩
  refine wpAny_call ?_
  refine' code_def B F X₀ N T rfl hf hk ?k6 ?k7 ?k8 ?k9 ?kB ?_ ?c2 ?c3 ?c4 ?c5
  (case k6 => k_is)
  (case k7 => k_is)
  (case k8 => k_room)
  (case k9 => first | exact BindsTo.of_eq rfl | exact binds_K (X₀.keeps F.keep) rfl (by k_is) rfl rfl rfl)
  (case kB => exact locs rfl)
  (case c2 => exact rfl)
  (case c3 => exact rfl)
  (case c4 => exact rfl)
  (case c5 => decide)
  intro g' L' h' FG' F' N' B' X' T'
  (try dsimp only)
  (try k_lift B')
  k_steps
  all_goals first
    | exact hF _ _ _ _ _ _ _ (deed0 (by assumption)) rfNone (by assumption) (by assumption) (news_sub (by assumption) (fun p hp => by repeat (first | exact hp | refine List.Mem.tail _ ?_)))
    | exact hF _ _ _ _ _ _ _ (deed1s (by assumption) (by assumption) (by assumption)) rfNone (by assumption) (by assumption) (news_sub (by assumption) (fun p hp => by repeat (first | exact hp | refine List.Mem.tail _ ?_)))
    | exact hF _ _ _ _ _ _ _ (deed2s (by assumption) (by assumption) (by assumption) (by assumption)) rfInt (by assumption) (by assumption) (news_sub (by assumption) (fun p hp => by repeat (first | exact hp | refine List.Mem.tail _ ?_)))
    | exact hF _ _ _ _ _ _ _ (deed3s (by assumption) (by assumption) (by assumption) (by assumption) (by assumption)) rfInt (by assumption) (by assumption) (news_sub (by assumption) (fun p hp => by repeat (first | exact hp | refine List.Mem.tail _ ?_)))
    | exact hF _ _ _ _ _ _ _ (deed3n (by assumption) (by assumption) (by assumption) (by assumption) (by assumption)) rfInt (by assumption) (by assumption) (news_sub (by assumption) (fun p hp => by repeat (first | exact hp | refine List.Mem.tail _ ?_)))
    | exact hF _ _ _ _ _ _ _ (deed4s (by assumption) (by assumption) (by assumption) (by assumption) (by assumption) (by assumption)) rfInt (by assumption) (by assumption) (news_sub (by assumption) (fun p hp => by repeat (first | exact hp | refine List.Mem.tail _ ?_)))
    | exact hF _ _ _ _ _ _ _ (deed4n (by assumption) (by assumption) (by assumption) (by assumption) (by assumption) (by assumption)) rfInt (by assumption) (by assumption) (news_sub (by assumption) (fun p hp => by repeat (first | exact hp | refine List.Mem.tail _ ?_)))
    | exact hF _ _ _ _ _ _ _ (deed6 (by assumption) (by assumption) (by assumption) (by assumption) (by assumption) (by assumption) (by assumption)) rfNone (by assumption) (by assumption) (news_sub (by assumption) (fun p hp => by repeat (first | exact hp | refine List.Mem.tail _ ?_)))
    | exact hR _ _ _ _ _ _ _ _ (deed5s (by assumption) (by assumption) (by assumption) (by assumption) (by assumption) (by assumption) (by assumption)) (rrPairS (by assumption)) (by assumption) (by assumption) (news_sub (by assumption) (fun p hp => by rcases List.mem_cons.mp hp with rfl | hp; (k_mem); (repeat (first | exact hp | refine List.Mem.tail _ ?_))))
    | exact hR _ _ _ _ _ _ _ _ (deed5n (by assumption) (by assumption) (by assumption) (by assumption) (by assumption) (by assumption) (by assumption)) (rrPairN (by assumption)) (by assumption) (by assumption) (news_sub (by assumption) (fun p hp => by rcases List.mem_cons.mp hp with rfl | hp; (k_mem); (repeat (first | exact hp | refine List.Mem.tail _ ?_))))
    | exact hR _ _ _ _ _ _ _ _ (deed7s (by assumption) (by assumption) (by assumption) (by assumption) (by assumption) (by assumption) (by assumption) (by assumption)) rrItem (by assumption) (by assumption) (news_sub (by assumption) (fun p hp => by rcases List.mem_cons.mp hp with rfl | hp; (k_mem); (repeat (first | exact hp | refine List.Mem.tail _ ?_))))
    | exact hX _ _ _ _ (deed1n (by assumption) (by assumption) (by assumption)) (by assumption) (by assumption) (raised_sub (by assumption) (fun p hp => by repeat (first | exact hp | refine List.Mem.tail _ ?_)))
    | exact hX _ _ _ _ (deed2n (by assumption) (by assumption) (by assumption) (by assumption)) (by assumption) (by assumption) (raised_sub (by assumption) (fun p hp => by repeat (first | exact hp | refine List.Mem.tail _ ?_)))
    | exact hX _ _ _ _ (deed7n (by assumption) (by assumption) (by assumption) (by assumption) (by assumption) (by assumption) (by assumption) (by assumption)) (by assumption) (by assumption) (raised_sub (by assumption) (fun p hp => by repeat (first | exact hp | refine List.Mem.tail _ ?_)))
end Mine
end
section
open PySem PySem.W PyProof.Rows PySem.Calls
set_option maxRecDepth 100000
set_option maxHeartbeats 8000000
theorem Mine.walkResetS15 : True := by w_top off; trivial
namespace Mine
section
variable {w : World} {A : Around} {E : Value → Shared → Prop} {s : Shared} {h₀ : Heap} {L : Addr} {m : Str → Option Value} {news : List (Addr × Obj)} {gg : Obj → List (Addr × Obj)} {d : Addr} {es : List DictEntry} {n : Nat} {c : Ents} {u : Str} {t : Tok}
theorem kd_method {name : Str} {id : String} {pl : Sem Bool} {Q : Value × List Value → Shared → Prop} (slot : Slot "dict" name id) (ty : typeOf (.builtin id) = pure (.type "method_descriptor")) (N : News h₀ L s.heap news) (hp : (d, dictOf es n) ∈ news) (h : Q (.builtin id, [.ref d]) s) :
    wpAny (model PP w) A (getMethod (.ref d) name pl) Q E s :=
  getMethod_builtin ⟨_, (N _ hp).1, rfl⟩ PySem.F.plainAttrs_dict slot ty (fun a e => by cases e; exact ⟨_, (N _ hp).1, rfl⟩) h
theorem kd_setItem {v : Int} {tv : Tok} {Q : Unit → Shared → Prop} (F : Fr h₀ L s.heap m) (N : News h₀ L s.heap news) (U : UpdF d (dictOf es n) news gg) (hE : EK w es c) (hsz : c.length ≤ 1000)
    (h : ∀ h' es' n', Fr h₀ L h' m → News h₀ L h' (gg (dictOf es' n')) → EK w es' (cput c u v) → Q () { s with heap := h', toks := s.toks + 1 }) :
    wpAny (model PP w) A (setItem (.ref d) (.str u t) (.int v tv)) Q E s := by
  obtain ⟨hh, g, dr, tk, os⟩ := s
  have hx := upd_mem U
  have ho := (N _ hx).1
  have hT : Shared.TypeIs ⟨hh, g, dr, tk, os⟩ (.ref d) "dict" := ⟨_, ho, rfl⟩
  unfold setItem
  refine wpAny_holding (wpAny_bind (wpAny_sequenceKey hT (by decide) ?_))
  refine wpAny_bind (wpAny_callSpecial?_slot hT PySem.F.slot_dict_setitem (wpAny_mono (Q := fun _ s' => Q () s') (wpAny_call_entry PySem.F.slot_dict_setitem hT PySem.F.entry_dict_setitem ?_ (PySem.F.args_dict_setitem_3 _ _ _)) (fun v s' h' => wpAny_pure h') fun _ _ e => e))
  exact b_setitem (R := fun _ s' => Q () s') (nok_due ho rfl) ho hE hsz fun h' es' n' a b z => h h' es' n' (upd_fr F N hx z) (upd_news N U z a) b
theorem kd_delItem {Q : Unit → Shared → Prop} (F : Fr h₀ L s.heap m) (N : News h₀ L s.heap news) (U : UpdF d (dictOf es n) news gg) (hE : EK w es c) (hsz : c.length ≤ 1000) (hds : (d == sysModules) = false) (hA : A.handled = none)
    (hnone : cget c u = none → ∀ h' e, Heap.NewExc s.heap h' e "KeyError" → E (.ref e) { s with heap := h', toks := s.toks + 1 })
    (hsome : ∀ v, cget c u = some v → ∀ h' es' n', Fr h₀ L h' m → News h₀ L h' (gg (dictOf es' n')) → EK w es' (cdel c u) → Q () { s with heap := h', toks := s.toks + 1 }) :
    wpAny (model PP w) A (delItem (.ref d) (.str u t)) Q E s := by
  obtain ⟨hh, g, dr, tk, os⟩ := s
  have hx := upd_mem U
  have ho := (N _ hx).1
  have hT : Shared.TypeIs ⟨hh, g, dr, tk, os⟩ (.ref d) "dict" := ⟨_, ho, rfl⟩
  refine wpAny_delItem_slot hT (by decide) PySem.F.slot_dict_delitem (wpAny_call_entry PySem.F.slot_dict_delitem hT PySem.F.entry_dict_delitem ?_ (PySem.F.args_dict_delitem_2 _ _))
  exact b_delitem (A := A.in1) (nok_due ho rfl) hds ho hE hsz hA hnone fun v e h' es' n' a b z => hsome v e h' es' n' (upd_fr F N hx z) (upd_news N U z a) b
theorem kd_getItem {Q : Value → Shared → Prop} (N : News h₀ L s.heap news) (hp : (d, dictOf es n) ∈ news) (hE : EK w es c) (hds : (d == sysModules) = false) (hA : A.handled = none)
    (hnone : cget c u = none → ∀ h' e, Heap.NewExc s.heap h' e "KeyError" → E (.ref e) { s with heap := h', toks := s.toks + 1 })
    (hsome : ∀ v t', cget c u = some v → Q (.int v t') { s with toks := s.toks + 1 }) :
    wpAny (model PP w) A (getItem (.ref d) (.str u t)) Q E s := by
  obtain ⟨hh, g, dr, tk, os⟩ := s
  have ho := (N _ hp).1
  have hT : Shared.TypeIs ⟨hh, g, dr, tk, os⟩ (.ref d) "dict" := ⟨_, ho, rfl⟩
  refine wpAny_getItem_slot hT (by decide) PySem.F.slot_dict_getitem (wpAny_call_entry PySem.F.slot_dict_getitem hT PySem.F.entry_dict_getitem ?_ (PySem.F.args_dict_getitem_2 _ _))
  exact b_getitem_due (A := A.in1) hds ho hE hA hnone hsome
theorem kd_contains {Q : Bool → Shared → Prop} (N : News h₀ L s.heap news) (hp : (d, dictOf es n) ∈ news) (hE : EK w es c) (hds : (d == sysModules) = false)
    (h : Q (cget c u).isSome { s with toks := s.toks + 1 }) : wpAny (model PP w) A (contains (.ref d) (.str u t)) Q E s := by
  obtain ⟨hh, g, dr, tk, os⟩ := s
  have ho := (N _ hp).1
  have hT : Shared.TypeIs ⟨hh, g, dr, tk, os⟩ (.ref d) "dict" := ⟨_, ho, rfl⟩
  refine wpAny_contains_slot hT PySem.F.slot_dict_contains (wpAny_call_entry PySem.F.slot_dict_contains hT PySem.F.entry_dict_contains ?_ (PySem.F.args_dict_contains_2 _ _))
  exact b_contains (R := fun r s' => wpAny (model PP w) A (truthy r) Q E s') hds ho hE (wpAny_pure h)
variable {Q : Value → Shared → Prop}
theorem kd_get {dflt : Value} (N : News h₀ L s.heap news) (hp : (d, dictOf es n) ∈ news) (hE : EK w es c) (hds : (d == sysModules) = false)
    (hnone : cget c u = none → Q dflt { s with toks := s.toks + 1 }) (hsome : ∀ v t', cget c u = some v → Q (.int v t') { s with toks := s.toks + 1 }) :
    wpAny (model PP w) A (call (.builtin "dict.get") [.ref d, .str u t, dflt]) Q E s := by
  obtain ⟨hh, g, dr, tk, os⟩ := s
  have ho := (N _ hp).1
  have hT : Shared.TypeIs ⟨hh, g, dr, tk, os⟩ (.ref d) "dict" := ⟨_, ho, rfl⟩
  refine wpAny_call_entry PySem.F.slot_dict_get hT PySem.F.entry_dict_get ?_ (PySem.F.args_dict_get_3 _ _ _)
  exact b_get (nok_due ho rfl) hds ho hE hnone hsome
theorem kd_setdefault {v : Int} {tv : Tok} (F : Fr h₀ L s.heap m) (N : News h₀ L s.heap news) (U : UpdF d (dictOf es n) news gg) (hE : EK w es c) (hsz : c.length ≤ 1000) (hds : (d == sysModules) = false)
    (hthere : ∀ v' t', cget c u = some v' → Q (.int v' t') { s with toks := s.toks + 1 })
    (hnew : cget c u = none → ∀ h' es' n', Fr h₀ L h' m → News h₀ L h' (gg (dictOf es' n')) → EK w es' (cput c u v) → Q (.int v tv) { s with heap := h', toks := s.toks + 1 }) :
    wpAny (model PP w) A (call (.builtin "dict.setdefault") [.ref d, .str u t, .int v tv]) Q E s := by
  obtain ⟨hh, g, dr, tk, os⟩ := s
  have hx := upd_mem U
  have ho := (N _ hx).1
  have hT : Shared.TypeIs ⟨hh, g, dr, tk, os⟩ (.ref d) "dict" := ⟨_, ho, rfl⟩
  refine wpAny_call_entry PySem.F.slot_dict_setdefault hT PySem.F.entry_dict_setdefault ?_ (PySem.F.args_dict_setdefault_3 _ _ _)
  exact b_setdefault (nok_due ho rfl) hds ho hE hsz hthere fun e h' es' n' a b z => hnew e h' es' n' (upd_fr F N hx z) (upd_news N U z a) b
theorem kd_pop {dflt : Value} (F : Fr h₀ L s.heap m) (N : News h₀ L s.heap news) (U : UpdF d (dictOf es n) news gg) (hE : EK w es c) (hsz : c.length ≤ 1000) (hds : (d == sysModules) = false)
    (hnone : cget c u = none → Q dflt { s with toks := s.toks + 1 })
    (hsome : ∀ v t', cget c u = some v → ∀ h' es' n', Fr h₀ L h' m → News h₀ L h' (gg (dictOf es' n')) → EK w es' (cdel c u) → Q (.int v t') { s with heap := h', toks := s.toks + 1 }) :
    wpAny (model PP w) A (call (.builtin "dict.pop") [.ref d, .str u t, dflt]) Q E s := by
  obtain ⟨hh, g, dr, tk, os⟩ := s
  have hx := upd_mem U
  have ho := (N _ hx).1
  have hT : Shared.TypeIs ⟨hh, g, dr, tk, os⟩ (.ref d) "dict" := ⟨_, ho, rfl⟩
  refine wpAny_call_entry PySem.F.slot_dict_pop hT PySem.F.entry_dict_pop ?_ (PySem.F.args_dict_pop_3 _ _ _)
  exact b_pop (nok_due ho rfl) hds ho hE hsz hnone fun v t' e h' es' n' a b z => hsome v t' e h' es' n' (upd_fr F N hx z) (upd_news N U z a) b
theorem kd_popitem (F : Fr h₀ L s.heap m) (N : News h₀ L s.heap news) (U : UpdF d (dictOf es n) news gg) (hE : EK w es c) (hsz : c.length ≤ 1000) (hds : (d == sysModules) = false) (hA : A.handled = none)
    (hnone : c = [] → ∀ h' e t', Heap.NewExc s.heap h' e "KeyError" → E (.ref e) { s with heap := h', toks := t' })
    (hsome : ∀ x v t₁ t₂, c.getLast? = some (x, v) → ∀ a h' es' n', Fr h₀ L h' m → News h₀ L h' ((a, { cls := .type "tuple", data := .seq #[.str x t₁, .int v t₂] }) :: gg (dictOf es' n')) → EK w es' c.dropLast → Q (.ref a) { s with heap := h' }) :
    wpAny (model PP w) A (call (.builtin "dict.popitem") [.ref d]) Q E s := by
  obtain ⟨hh, g, dr, tk, os⟩ := s
  have hx := upd_mem U
  have ho := (N _ hx).1
  have hT : Shared.TypeIs ⟨hh, g, dr, tk, os⟩ (.ref d) "dict" := ⟨_, ho, rfl⟩
  refine wpAny_call_entry PySem.F.slot_dict_popitem hT PySem.F.entry_dict_popitem ?_ (PySem.F.args_dict_popitem_1 _)
  exact b_popitem (A := A.in1) (nok_due ho rfl) hds ho hE hsz hA hnone fun x v t₁ t₂ e h' es' n' a b z =>
    hsome x v t₁ t₂ e _ _ es' n' ((upd_fr F N hx z).push _) (News.push (upd_fr F N hx z) (upd_news N U z a) _) b
end
section
variable {w : World} {A : Around} {E : Value → Shared → Prop} {s : Shared} {d o : Addr} {es : List DictEntry} {n : Nat} {c : Ents} {u : Str} {t : Tok} {T : Value} {dd : Option Addr}
theorem d_setH {v : Int} {tv : Tok} {Q : Unit → Shared → Prop} (ho : s.heap.get? d = some (dO T dd es n)) (hE : EK w es c) (hsz : c.length ≤ 1000)
    (hQ : ∀ h' es' n', h'.get? d = some (dO T dd es' n') → EK w es' (cput c u v) → Heap.SameBut d s.heap h' → Q () { s with heap := h' }) :
    wpAny (model PP w) A (dictSetHashed d (.str u t) (hashStr w u) (.int v tv)) Q E s := by
  have hz : es.toArray.size ≤ sizeLine := by rw [List.size_toArray, hE.length, sizeLine_eq]; omega
  unfold dictSetHashed
  try with_reducible refine wpAny_holding ?_
  refine wpAny_bind (d_find ho hE ?_)
  cases hi : ix c u with
  | some i =>
    refine wpAny_bind (wpAny_rule (wpAny_bind (wpAny_updateDict ho rfl (wpAny_point (hQ _ (es.modify i fun e => { e with val := .int v tv }) n ?_ ?_ (Heap.SameBut.update ..))))))
    · rw [Heap.get?_update_self _ ho (Obj.isFreed_of_dict (Obj.data_mapDict rfl _))]
      simp [Obj.mapDict, dO]
    · unfold cput; rw [hi]; exact hE.modify i
  | none =>
    refine wpAny_bind (wpAny_rule (wpAny_updateDictKeys (hz := hz) ho rfl (hQ _ (es ++ [⟨hashStr w u, .str u t, .int v tv⟩]) (n + 1) ?_ ?_ (Heap.SameBut.update ..))))
    · rw [Heap.get?_update_self _ ho (Obj.isFreed_of_dict (Obj.data_mapDictKeys rfl _))]
      simp [Obj.mapDictKeys, dO]
      try rfl
    · unfold cput; rw [hi]; exact hE.push ⟨⟨t, rfl⟩, rfl, tv, rfl⟩
theorem one_shape {od : Obj} {x : Str} {v : Int} {tv : Tok} (h : od.IsDictOf (strKind PP w) [(x, Value.int v tv)]) : ∃ t ep, od = { cls := .type "dict", dict := none, data := .dict #[⟨hashStr w x, .str x t, .int v tv⟩] ep, slots := #[] } := by
  obtain ⟨es, ep, xd, e, hk, hp, -⟩ := h
  have hl : es.toList.length = 1 := by rw [hp.length]; rfl
  match q : es.toList, hl with
  | [e0], _ =>
    have hes : es = #[e0] := by rw [← Array.toArray_toList (xs := es), q]
    subst hes
    obtain ⟨k, hk1, hk2⟩ := hk e0 (by simp)
    obtain ⟨h1, h2⟩ := hp.get? (i := 0) (e := e0) (k := x) (v := Value.int v tv) (by simp) (by simp)
    obtain ⟨t, ht⟩ := Value.isStrOf_shape h1
    have hkx : k = x := (strKind PP w).inj _ _ _ hk1 h1
    refine ⟨t, ep, ?_⟩
    rw [exact_shape xd e]
    obtain ⟨a, b, c'⟩ := e0
    dsimp only at ht h2 hk2
    subst ht h2 hkx
    rw [show a = hashStr w k from hk2]
theorem b_update {od : Obj} {x : Str} {v : Int} {tv : Tok} {R : Value → Shared → Prop} (hN : NOk w s.heap d) (ho : s.heap.get? d = some (dO (.type "dict") none es n)) (hE : EK w es c) (hsz : c.length ≤ 1000)
    (hoo : s.heap.get? o = some od) (hd1 : od.IsDictOf (strKind PP w) [(x, Value.int v tv)]) (hos : (o == sysModules) = false) (hdo : d ≠ o)
    (h : ∀ h' es' n', h'.get? d = some (dO (.type "dict") none es' n') → EK w es' (cput c x v) → Heap.SameBut d s.heap h' → R .none { s with heap := h' }) :
    wpAny (model PP w) A (Builtin.«dict.update» ⟨[.ref d, .ref o], []⟩) (fun fin s' => ∃ v, fin = .done (.ret v) ∧ R v s') E s := by
  obtain ⟨t, ep, rfl⟩ := one_shape hd1
  have hT : s.TypeIs (.ref o) "dict" := ⟨_, hoo, rfl⟩
  unfold Builtin.«dict.update»
  refine wpAny_bind ?_
  unfold Builtin.Dict.selfAndRest
  refine wpAny_bind (hN _ _ _ _ _ _ _ rfl ?_)
  show wpAny _ _ (pure (d, [Value.ref o])) _ _ _
  refine wpAny_pure ?_
  show wpAny _ _ (Builtin.Dict.updateFrom "dict.update" d (.ref o) [] .none) _ _ _
  unfold Builtin.Dict.updateFrom
  refine wpAny_bind (wpAny_typeOf hT ?_)
  rw [if_neg (by decide)]
  refine wpAny_bind ?_
  unfold Builtin.Dict.merge
  refine wpAny_bind ?_
  unfold Builtin.Dict.readDirectly
  refine wpAny_bind (wpAny_isInstance hT isSubtype_dict_dict ?_)
  simp only [Bool.not_true, Bool.false_eq_true, if_false]
  refine wpAny_bind (wpAny_specialOf hT PySem.F.slot_dict_iter.lookup (wpAny_pure ?_))
  simp only [beq_self_eq_true, if_true]
  refine wpAny_bind (wpAny_pure ?_)
  unfold Builtin.Dict.mergeDict
  rw [if_neg (by simpa using hdo)]
  refine wpAny_bind ?_
  unfold Builtin.Dict.showsAll
  rw [if_neg (by rw [hos]; exact Bool.false_ne_true)]
  refine wpAny_pure ?_
  refine wpAny_bind (wpAny_dictEntries hoo rfl ?_)
  have few : (decide (#[({ hash := hashStr w x, key := Value.str x t, val := Value.int v tv } : DictEntry)].size ≤ 8) && #[({ hash := hashStr w x, key := Value.str x t, val := Value.int v tv } : DictEntry)].all fun e => (keyPart e.key).isSome) = true := by first | simp [keyPart] | (simp; done) | (simp; rfl) | kernel_rfl
  rw [few]
  dsimp only
  rw [if_neg (by decide)]
  refine wpAny_bind (wpAny_dictEpoch hoo rfl ?_)
  refine wpAny_bind (wpAny_dictEntries hoo rfl ?_)
  refine wpAny_bind ?_
  rw [Std.Legacy.Range.forIn_eq_forIn_range']
  rw [show List.range' [:#[({ hash := hashStr w x, key := Value.str x t, val := Value.int v tv } : DictEntry)].size].start [:#[({ hash := hashStr w x, key := Value.str x t, val := Value.int v tv } : DictEntry)].size].size [:#[({ hash := hashStr w x, key := Value.str x t, val := Value.int v tv } : DictEntry)].size].step = [0] from by simp [Std.Legacy.Range.size]]
  rw [List.forIn_cons]
  refine wpAny_bind (wpAny_bind (wpAny_dictEntries hoo rfl ?_))
  show wpAny _ _ (holding [Value.str x t, Value.int v tv] (dictSetHashed d (.str x t) (hashStr w x) (.int v tv)) >>= _) _ _ _
  refine wpAny_bind (wpAny_holding (d_setH ho hE hsz fun h' es' n' a b z => ?_))
  have hoo' := z.extBut _ _ (Ne.symm hdo) hoo
  refine wpAny_bind (wpAny_dictEpoch hoo' rfl ?_)
  rw [if_neg (by simp)]
  refine wpAny_pure ?_
  show wpAny _ _ (pure _) _ _ _
  refine wpAny_pure (wpAny_pure ?_)
  refine wpAny_bind ?_
  show wpAny _ _ (pure _) _ _ _
  exact wpAny_pure (wpAny_pure ⟨_, rfl, h h' es' n' a b z⟩)
end
section
variable {w : World} {A : Around} {E : Value → Shared → Prop} {s : Shared} {h₀ : Heap} {L : Addr} {m : Str → Option Value} {news : List (Addr × Obj)} {gg : Obj → List (Addr × Obj)} {d : Addr} {es : List DictEntry} {n : Nat} {c : Ents} {u : Str} {t : Tok} {Q : Value → Shared → Prop}
theorem kd_update {o : Addr} {od : Obj} {x : Str} {v : Int} {tv : Tok} (F : Fr h₀ L s.heap m) (N : News h₀ L s.heap news) (U : UpdF d (dictOf es n) news gg) (hE : EK w es c) (hsz : c.length ≤ 1000)
    (hd1 : od.IsDictOf (strKind PP w) [(x, Value.int v tv)]) (hm1 : (o, od) ∈ news) (hos : (o == sysModules) = false) (hdo : d ≠ o)
    (h : ∀ h' es' n', Fr h₀ L h' m → News h₀ L h' (gg (dictOf es' n')) → EK w es' (cput c x v) → Q .none { s with heap := h' }) :
    wpAny (model PP w) A (call (.builtin "dict.update") [.ref d, .ref o]) Q E s := by
  obtain ⟨hh, g, dr, tk, os⟩ := s
  have hx := upd_mem U
  have ho := (N _ hx).1
  have hT : Shared.TypeIs ⟨hh, g, dr, tk, os⟩ (.ref d) "dict" := ⟨_, ho, rfl⟩
  refine wpAny_call_entry PySem.F.slot_dict_update hT PySem.F.entry_dict_update ?_ (PySem.F.args_dict_update_2 _ _)
  exact b_update (nok_due ho rfl) ho hE hsz (N _ hm1).1 hd1 hos hdo fun h' es' n' a b z => h h' es' n' (upd_fr F N hx z) (upd_news N U z a) b
theorem kd_in (N : News h₀ L s.heap news) (hp : (d, dictOf es n) ∈ news) (hE : EK w es c) (hds : (d == sysModules) = false)
    (h : Q (.bool (cget c u).isSome) { s with toks := s.toks + 1 }) : wpAny (model PP w) A (compareOp .In (.str u t) (.ref d)) Q E s := by
  show wpAny _ _ (contains (.ref d) (.str u t) >>= fun b => pure (Value.bool b)) _ _ _
  exact wpAny_bind (kd_contains N hp hE hds (wpAny_pure h))
theorem kd_item {value slice : PySem.Expr} (N : News h₀ L s.heap news) (hp : (d, dictOf es n) ∈ news) (hE : EK w es c) (hds : (d == sysModules) = false) (hA : A.handled = none)
    (hnone : cget c u = none → ∀ h' e, Heap.NewExc s.heap h' e "KeyError" → E (.ref e) { s with heap := h', toks := s.toks + 1 })
    (hsome : ∀ v t', cget c u = some v → Q (.int v t') { s with toks := s.toks + 1 })
    (hs : subscripted slice false (.ref d) (.str u t) = operate [.ref d, .str u t] (getItem (.ref d) (.str u t)) := by with_unfolding_all rfl) (hg : ∀ r, letTemporaryGo value (.ref d) r = pure () := by intro _; with_unfolding_all rfl) :
    wpAny (model PP w) A (subscriptTail value slice (.ref d) (.str u t)) Q E s :=
  subscriptTail_builtin ⟨_, (N _ hp).1, rfl⟩ PySem.F.slot_dict_getitem.lookup (kd_getItem N hp hE hds hA hnone hsome) hs hg
end
end Mine
end
section
open PySem PySem.W PyProof.Rows PySem.Calls
set_option maxRecDepth 100000
set_option maxHeartbeats 8000000
theorem Mine.walkResetS16 : True := by w_top off; trivial
namespace Mine
local macro_rules | `(tactic| k_ne) => `(tactic| (refine neN ?_; (try dsimp only); first | with_reducible assumption | with_reducible exact Ne.symm (by assumption) | with_reducible exact Nat.ne_of_lt (by assumption) | with_reducible exact Nat.ne_of_gt (by assumption)))
local macro_rules | `(tactic| k_in) => `(tactic| first | with_reducible assumption | with_reducible exact Frag.In.keeps (by assumption) (Fr.keep (by assumption)))
local macro_rules | `(tactic| walk_at "callWith ref") => `(tactic| (k_here; k_dflt (first
  | ((with_reducible show wpAny _ _ (callWith _ _ _ (backTo _ (starEach (_ :: _) _)) _) _ _ _); refine' callWith_K ?k1 ?k2 ?_; (case k1 => k_asm); (case k2 => k_is); k_whole)
  | ((with_reducible show wpAny _ _ (callWith _ _ _ (backTo _ (starEach [] _)) _) _ _ _); refine' callWith_K0 ?k1 ?k2 ?_; (case k1 => k_in); (case k2 => k_is); k_whole))))
local macro_rules | `(tactic| walk_at "callWith") => `(tactic| (k_here; (with_reducible show wpAny _ _ (callWith _ (Value.builtin _) (_ :: _) (backTo _ (starEach (_ :: _) _)) []) _ _ _); k_dflt (refine PyProof.Rows.callWith_method1 ?_)))
local macro_rules | `(tactic| walk_at "eval Name") => `(tactic| (k_here; (fail_if_success (with_reducible show wpAny _ _ (eval (Expr.Name _ _) (compEnvC _ _ _ _)) _ _ _)); k_dflt (first
  | (refine' nameX_L ?F ?v ?_ ?a ?b; (case F => k_asm); (case a => rfl); (case b => rfl); (case v => rfl); k_whole)
  | (refine' nameX_C ?N ?c ?m ?d ?_ ?a ?b; (case a => rfl); (case b => rfl); (case N => k_asm); (case c => rfl); (case m => k_mem); (case d => k_asm); k_whole)
  | (refine' nameX_K ?F ?X ?T ?e ?_ ?a ?b; (case F => k_asm); (case X => k_asm); (case T => k_asm); (case a => rfl); (case b => rfl); (case e => k_is); k_whole)
  | (refine' nameX_B ?F ?X ?T ?e ?v ?n ?_ ?a ?b; (case F => k_asm); (case X => k_asm); (case T => k_asm); (case a => rfl); (case b => rfl); (case e => k_is); (case v => boot_fast); (case n => decide); k_whole))))
local macro_rules | `(tactic| k_inst) => `(tactic| (refine' inst_cd ?N ?h1 ?h2; (case N => k_asm); (case h1 => k_mem); (case h2 => k_mem)))
local macro_rules | `(tactic| k_room) => `(tactic| ((try simp only [depth_mark, depth_under_make, depth_under_kw, depth_in1, depth_deeper, depth_caller]); (try simp only [Around.deeper]); omega))
local macro_rules | `(tactic| k_all) => `(tactic| assumption)
local macro_rules | `(tactic| walk_at "wpAt") => `(tactic| (ks_step "eval Call"; (refine at_MethodCall ?_ ?hfo ?hli); (case hfo => first | rfl | kernel_rfl); (case hli => first | rfl | kernel_rfl)))
local macro_rules | `(tactic| walk_at "wpAt") => `(tactic| (ks_step "exec Expr"; (refine ks_wpAt_Expr_any ?_ ?hint ?hsw); (case hint => first | rfl | kernel_rfl); (case hsw => first | rfl | kernel_rfl)))
local macro_rules | `(tactic| walk_at "getMethod ref") => `(tactic| (k_here; k_dflt (refine' method_b ?F ?X ?N ?so ?hx ?ho ?hm ?md ?hn ?_; (case F => k_asm); (case X => k_asm); (case N => k_asm); (case so => k_mem); (case hx => k_mem); (case ho => k_is); (case hm => ks_is); (case md => first | exact mdp_contains | exact mdp_getitem | exact mdp_get | exact mdp_setdefault | exact mdp_pop | exact mdp_popitem | exact mdp_setitem | exact mdp_delitem | exact mdp_init); (case hn => decide); intro q' h' t' F' N' l1; (replace l1 := allNe_of l1; simp only [AllNe, and_true] at l1))))
local macro_rules | `(tactic| walk_at "call ref") => `(tactic| (k_here; k_dflt (first
  | (refine' kb_contains ?F ?X ?N ?q ?x ?E ?s ?_; (case F => k_asm); (case X => k_asm); (case N => k_asm); (case q => k_mem); (case x => k_mem); (case E => assumption); (case s => assumption))
  | (refine' kb_getitem ?F ?X ?N ?q ?x ?E ?s ?hA ?_ ?_; (case F => k_asm); (case X => k_asm); (case N => k_asm); (case q => k_mem); (case x => k_mem); (case E => assumption); (case s => assumption); (case hA => exact rfl); rotate_left; (intro v' t' e'); rotate_left; (intro e' h' x' hx'))
  | (refine' kb_get ?F ?X ?N ?q ?x ?E ?s ?_ ?_; (case F => k_asm); (case X => k_asm); (case N => k_asm); (case q => k_mem); (case x => k_mem); (case E => assumption); (case s => assumption); rotate_left; (intro v' t' e'); rotate_left; (intro e'))
  | (refine' kb_setdefault ?F ?X ?N ?q ?U ?E ?z ?s ?_ ?_; (case F => k_asm); (case X => k_asm); (case N => k_asm); (case q => k_mem); (case U => k_updF); (case E => assumption); (case z => assumption); (case s => assumption); rotate_left; (intro e' h' es' n' F' N' hE'; try dsimp only at N'); rotate_left; (intro v' t' e'))
  | (refine' kb_pop ?F ?X ?N ?q ?U ?E ?z ?s ?_ ?_; (case F => k_asm); (case X => k_asm); (case N => k_asm); (case q => k_mem); (case U => k_updF); (case E => assumption); (case z => assumption); (case s => assumption); rotate_left; (intro v' t' e' h' es' n' F' N' hE'; try dsimp only at N'); rotate_left; (intro e'))
  | (refine' kb_popitem ?F ?X ?N ?q ?U ?E ?z ?s ?hA ?_ ?_; (case F => k_asm); (case X => k_asm); (case N => k_asm); (case q => k_mem); (case U => k_updF); (case E => assumption); (case z => assumption); (case s => assumption); (case hA => exact rfl); rotate_left; (intro y' v' t1' t2' e' a' h' es' n' F' N' hE'; try dsimp only at N'); rotate_left; (intro e' h' x' t' hx'))
  | (refine' kb_setitem ?F ?X ?N ?q ?U ?E ?z ?_; (case F => k_asm); (case X => k_asm); (case N => k_asm); (case q => k_mem); (case U => k_updF); (case E => assumption); (case z => assumption); (intro h' es' n' F' N' hE'; try dsimp only at N'))
  | (refine' kb_delitem ?F ?X ?N ?q ?U ?E ?z ?s ?hA ?_ ?_; (case F => k_asm); (case X => k_asm); (case N => k_asm); (case q => k_mem); (case U => k_updF); (case E => assumption); (case z => assumption); (case s => assumption); (case hA => exact rfl); rotate_left; (intro v' e' h' es' n' F' N' hE'; try dsimp only at N'); rotate_left; (intro e' h' x' hx')))))
local macro_rules | `(tactic| walk_at "And") => `(tactic| ((with_reducible show BoundP _ _ _ _ _ ∧ _); refine ⟨boundP_of (by k_asm) (by k_mem), ?_⟩; try dsimp only [List.nil_append, List.cons_append]))
local macro_rules | `(tactic| walk_at "call builtin:str.upper") => `(tactic| (k_here; (show wpAny _ _ (call (Value.builtin "str.upper") [Value.str _ _]) _ _ _); (refine KXw.upper (by assumption) (by assumption) ?_); intro t' k'))
local macro_rules | `(tactic| walk_at "leaving ref") => `(tactic| (k_here; first
  | (refine' leave_newX ?k5 ?k6 ?k1 ?k0 ?k2 ?k3 ?_; (case k0 => assumption); (case k1 => assumption); (case k2 => assumption); (case k3 => k_asm); (case k5 => exact rfl); (case k6 => exact rfl); k_whole; intro h' R' U'; (try dsimp only at R' U' ⊢))
  | (refine' leave_onX ?k5 ?k1 ?k2 ?k3 ?k4 ?_; (case k3 => assumption); (case k1 => assumption); (case k4 => assumption); (case k2 => assumption); (case k5 => exact rfl); k_whole; intro h' R' U'; (try dsimp only at R' U' ⊢))))

local macro_rules | `(tactic| walk_at "my_sub") => `(tactic| (intro p hp; first | exact hp | exact .tail _ hp | exact .tail _ (.tail _ hp) | exact .tail _ (.tail _ (.tail _ hp)) | exact .tail _ (.tail _ (.tail _ (.tail _ hp))) | exact .tail _ (.tail _ (.tail _ (.tail _ (.tail _ hp))))))
local macro_rules | `(tactic| walk_at "my_sub2") => `(tactic| (intro p hp; rcases List.mem_cons.mp hp with rfl | hp; (exact List.Mem.head _); (apply List.Mem.tail; revert hp; revert p; walk_at "my_sub")))
local macro_rules | `(tactic| walk_at "call builtin:hasattr") => `(tactic| (k_here; (with_reducible show wpAny _ _ (call (Value.builtin "hasattr") [Value.ref _, Value.str _ _]) _ _ _); k_dflt (refine' ln_has (knd := PySem.strKind PP _) ?F ?X ?N ?p ?d ?_; (case F => k_asm); (case X => k_asm); (case N => k_asm); (case p => k_mem); (case d => assumption); intro h' F' N')))
local macro_rules | `(tactic| walk_at "call builtin:iter") => `(tactic| (k_here; (with_reducible show wpAny _ _ (call (Value.builtin "iter") [Value.ref _]) _ _ _); k_dflt (refine' ln_iter (knd := PySem.strKind PP _) ?F ?X ?N ?v ?p ?d ?_; (case F => k_asm); (case X => k_asm); (case N => k_asm); (case v => k_mem); (case p => k_mem); (case d => assumption); intro it' ep' h' hep' F' N' l1; (replace l1 := allNe_of l1; simp only [AllNe, and_true] at l1))))
local macro_rules | `(tactic| walk_at "pyIter ref") => `(tactic| ((with_reducible show wpAny _ _ (pyIter (Value.ref _)) (fun it s₂ => TurnsAt _ _ _ _ _ _ _ _ _ it s₂) _ _); (rename Fr _ _ _ _ => lF'); (rename News _ _ _ _ => lN'); (with_unfolding_all refine' my_items (knd := PySem.strKind PP _) (xs := _) ?hh lF' lN' ?p ?d ?ep ?off ?hx ?hl ?_); (case hh => exact rfl); (case p => k_mem); (case d => assumption); (case ep => assumption); (case off => ktu_offI); (case hx => first | exact items_nil | exact items_one); (case hl => exact rfl); clear lF' lN'))
local macro_rules | `(tactic| walk_at "exec For Tuple Name cons nil") => `(tactic| (k_here; (rename Fr _ _ _ _ => lF'); (with_unfolding_all refine' For_turns lF' ?_; k_whole)))
local macro_rules | `(tactic| walk_at "my_units") => `(tactic| ((try simp only [units_in1, PySem.Around.deeper_units, Around.mark_units, units_caller]); (try simp only [Around.deeper]); omega))
local macro_rules | `(tactic| walk_at "call ref") => `(tactic| (k_here; k_dflt (first
  | (refine' g_has_key ?hA0 ?hA ?hcr ?hcu ?B ?F ?X ?N ?U ?hm ?T ?hf ?hk ?hdx ?hE ?hxs ?hup ?hul ?_; (case hA0 => exact rfl); (case hA => exact rfl); (case hcr => k_room); (case hcu => walk_at "my_units"); (case B => k_asm); (case F => k_asm); (case X => k_asm); (case N => k_asm); (case U => k_updF); (case hm => k_mem); (case T => k_asm); (case hf => exact rfl); (case hk => exact rfl); (case hdx => first | assumption | k_ne); (case hE => assumption); (case hxs => assumption); (case hup => assumption); (case hul => assumption); (intro h' tk'  F' N'; try dsimp only at N'))
  | (refine' g_contains ?hA0 ?hA ?hcr ?hcu ?B ?F ?X ?N ?U ?hm ?T ?hf ?hk ?hdx ?hE ?hxs ?hup ?hul ?_; (case hA0 => exact rfl); (case hA => exact rfl); (case hcr => k_room); (case hcu => walk_at "my_units"); (case B => k_asm); (case F => k_asm); (case X => k_asm); (case N => k_asm); (case U => k_updF); (case hm => k_mem); (case T => k_asm); (case hf => exact rfl); (case hk => exact rfl); (case hdx => first | assumption | k_ne); (case hE => assumption); (case hxs => assumption); (case hup => assumption); (case hul => assumption); (intro h' tk'  F' N'; try dsimp only at N'))
  | (refine' g_get ?hA0 ?hA ?hcr ?hcu ?B ?F ?X ?N ?U ?hm ?T ?hf ?hk ?hdx ?hE ?hxs ?hup ?hul ?_ ?_; (case hA0 => exact rfl); (case hA => exact rfl); (case hcr => k_room); (case hcu => walk_at "my_units"); (case B => k_asm); (case F => k_asm); (case X => k_asm); (case N => k_asm); (case U => k_updF); (case hm => k_mem); (case T => k_asm); (case hf => exact rfl); (case hk => exact rfl); (case hdx => first | assumption | k_ne); (case hE => assumption); (case hxs => assumption); (case hup => assumption); (case hul => assumption); (intro h' tk' q0' F' N'; try dsimp only at N'); rotate_left; (intro h' tk' v' tv' q0' F' N'; try dsimp only at N'); rotate_left)
  | (refine' g_getitem ?hA0 ?hA ?hcr ?hcu ?B ?F ?X ?N ?U ?hm ?T ?hf ?hk ?hdx ?hE ?hxs ?hup ?hul ?_ ?_; (case hA0 => exact rfl); (case hA => exact rfl); (case hcr => k_room); (case hcu => walk_at "my_units"); (case B => k_asm); (case F => k_asm); (case X => k_asm); (case N => k_asm); (case U => k_updF); (case hm => k_mem); (case T => k_asm); (case hf => exact rfl); (case hk => exact rfl); (case hdx => first | assumption | k_ne); (case hE => assumption); (case hxs => assumption); (case hup => assumption); (case hul => assumption); (intro h' tk' v' tv' q0' F' N'; try dsimp only at N'); rotate_left; (intro h' tk' e' gx' q0' F' U' R'; try dsimp only at R'); rotate_left)
  | (refine' g_setitem ?hA0 ?hA ?hcr ?hcu ?B ?F ?X ?N ?U ?hm ?T ?hf ?hk ?hdx ?hE ?hxs ?hup ?hul ?hsz ?_; (case hA0 => exact rfl); (case hA => exact rfl); (case hcr => k_room); (case hcu => walk_at "my_units"); (case B => k_asm); (case F => k_asm); (case X => k_asm); (case N => k_asm); (case U => k_updF); (case hm => k_mem); (case T => k_asm); (case hf => exact rfl); (case hk => exact rfl); (case hdx => first | assumption | k_ne); (case hE => assumption); (case hxs => assumption); (case hup => assumption); (case hul => assumption); (case hsz => assumption); (intro h' tk' es' n' q0' F' N'; try dsimp only at N'))
  | (refine' g_delitem ?hA0 ?hA ?hcr ?hcu ?B ?F ?X ?N ?U ?hm ?T ?hf ?hk ?hdx ?hE ?hxs ?hup ?hul ?hsz ?_ ?_; (case hA0 => exact rfl); (case hA => exact rfl); (case hcr => k_room); (case hcu => walk_at "my_units"); (case B => k_asm); (case F => k_asm); (case X => k_asm); (case N => k_asm); (case U => k_updF); (case hm => k_mem); (case T => k_asm); (case hf => exact rfl); (case hk => exact rfl); (case hdx => first | assumption | k_ne); (case hE => assumption); (case hxs => assumption); (case hup => assumption); (case hul => assumption); (case hsz => assumption); (intro h' tk' es' n' v' q0' q1' F' N'; try dsimp only at N'); rotate_left; (intro h' tk' e' gx' q0' F' U' R'; try dsimp only at R'); rotate_left)
  | (refine' g_setdefault ?hA0 ?hA ?hcr ?hcu ?B ?F ?X ?N ?U ?hm ?T ?hf ?hk ?hdx ?hE ?hxs ?hup ?hul ?hsz ?_ ?_; (case hA0 => exact rfl); (case hA => exact rfl); (case hcr => k_room); (case hcu => walk_at "my_units"); (case B => k_asm); (case F => k_asm); (case X => k_asm); (case N => k_asm); (case U => k_updF); (case hm => k_mem); (case T => k_asm); (case hf => exact rfl); (case hk => exact rfl); (case hdx => first | assumption | k_ne); (case hE => assumption); (case hxs => assumption); (case hup => assumption); (case hul => assumption); (case hsz => assumption); (intro h' tk' v' tv' q0' F' N'; try dsimp only at N'); rotate_left; (intro h' tk' es' n' q0' q1' F' N'; try dsimp only at N'); rotate_left)
  | (refine' g_pop ?hA0 ?hA ?hcr ?hcu ?B ?F ?X ?N ?U ?hm ?T ?hf ?hk ?hdx ?hE ?hxs ?hup ?hul ?hsz ?_ ?_; (case hA0 => exact rfl); (case hA => exact rfl); (case hcr => k_room); (case hcu => walk_at "my_units"); (case B => k_asm); (case F => k_asm); (case X => k_asm); (case N => k_asm); (case U => k_updF); (case hm => k_mem); (case T => k_asm); (case hf => exact rfl); (case hk => exact rfl); (case hdx => first | assumption | k_ne); (case hE => assumption); (case hxs => assumption); (case hup => assumption); (case hul => assumption); (case hsz => assumption); (intro h' tk' q0' F' N'; try dsimp only at N'); rotate_left; (intro h' tk' es' n' v' tv' q0' q1' F' N'; try dsimp only at N'); rotate_left)
  | (refine' g_popitem ?hA0 ?hA ?hcr ?hcu ?B ?F ?X ?N ?U ?hm ?T ?hf ?hk ?hdx ?hE ?hxs ?hsz ?_ ?_; (case hA0 => exact rfl); (case hA => exact rfl); (case hcr => k_room); (case hcu => walk_at "my_units"); (case B => k_asm); (case F => k_asm); (case X => k_asm); (case N => k_asm); (case U => k_updF); (case hm => k_mem); (case T => k_asm); (case hf => exact rfl); (case hk => exact rfl); (case hdx => first | assumption | k_ne); (case hE => assumption); (case hxs => assumption); (case hsz => assumption); (intro h' tk' es' n' k' v' t1' t2' a' q0' q1' F' N'; try dsimp only at N'); rotate_left; (intro h' tk' e' gx' q0' F' U' R'; try dsimp only at R'); rotate_left))))
local macro_rules | `(tactic| walk_at "call ref") => `(tactic| (k_here; k_dflt (first
  | (refine' gm_update0 ?hA0 ?hA ?hcr ?hcu ?B ?F ?X ?N ?U ?hm ?T ?hf ?hk ?hdx ?hE ?hxs ?hqm ?_; (case hA0 => exact rfl); (case hA => exact rfl); (case hcr => k_room); (case hcu => walk_at "my_units"); (case B => k_asm); (case F => k_asm); (case X => k_asm); (case N => k_asm); (case hqm => k_mem); (case U => k_updF); (case hm => k_mem); (case T => k_asm); (case hf => exact rfl); (case hk => exact rfl); (case hdx => first | assumption | k_ne); (case hE => assumption); (case hxs => assumption); intro h' tk' F' N'; try dsimp only at N')
  | (refine' g_update1 ?hA0 ?hA ?hcr ?hcu ?B ?F ?X ?N ?U ?hm ?T ?hf ?hk ?hdx ?hE ?hxs ?hup ?hul ?hsz ?hd1 ?ls1 ?hm1 ?hdt ?_; (case hA0 => exact rfl); (case hA => exact rfl); (case hcr => k_room); (case hcu => walk_at "my_units"); (case B => k_asm); (case F => k_asm); (case X => k_asm); (case N => k_asm); (case U => k_updF); (case hm => k_mem); (case T => k_asm); (case hf => exact rfl); (case hk => exact rfl); (case hdx => first | assumption | k_ne); (case hE => assumption); (case hxs => assumption); (case hup => assumption); (case hul => assumption); (case hsz => assumption); (case hd1 => assumption); (case ls1 => assumption); (case hm1 => k_mem); (case hdt => k_ne); intro h' tk' es' n' q0' F' N'; try dsimp only at N'))))
local macro_rules | `(tactic| walk_at "getMethod ref") => `(tactic| (k_here; k_dflt (refine' method_told (T := "function") ?F ?X ?N ?x ?d ?f ?t ?T ?_; (case F => k_asm); (case X => k_asm); (case N => k_asm); (case x => k_mem); (case d => k_mem); (case f => k_is); (case t => exact looks_typeIn (by k_in) (by k_is)); (case T => decide))))
local macro_rules | `(tactic| walk_at "delItem ref") => `(tactic| (k_here; (with_reducible show wpAny _ _ (delItem (Value.ref _) _) _ _ _); k_dflt (refine' delItem_own ?F ?X ?I ?hQ ?hS ?hF ?_; (case F => k_asm); (case X => k_asm); (case I => k_inst); (case hS => k_is); (case hF => k_is); (case hQ => k_is); k_whole)))
local macro_rules | `(tactic| walk_at "eval Dict") => `(tactic| (k_here; k_dflt (refine' kdn_eval (knd := PySem.strKind PP _) ?F ?N ?b ?a ?l ?e ?n ?_; (case F => k_asm); (case N => k_asm); (case b => exact Top.nolimit (by k_asm)); (case a => rfl); (case l => rfl); (case e => exact List.cons_ne_nil _ _); (case n => exact Nat.le_of_ble_eq_true rfl)); intro d' h' o' F' N' l1 lo' hd'; (try k_lt l1)))
local macro_rules | `(tactic| walk_at "KdnMade") => `(tactic| (k_here; k_dflt (refine' kdn_made_str ?F ?N ?U ?d ?k ?n ?_; (case F => k_asm); (case N => k_asm); (case U => k_updF); (case d => k_asm); (case k => rfl); (case n => exact List.nodup_cons.mpr ⟨List.not_mem_nil, List.nodup_nil⟩); intro h' o' F' N' hd'); (try dsimp only at N')))
local macro_rules | `(tactic| walk_at "getMethod ref") => `(tactic| (k_here; (with_reducible show wpAny _ _ (getMethod (Value.ref _) _ _) _ _ _); k_dflt (first
  | refine kd_method PySem.F.slot_dict_setdefault PySem.F.type_dict_setdefault (by k_asm) (by k_mem) ?_
  | refine kd_method PySem.F.slot_dict_popitem PySem.F.type_dict_popitem (by k_asm) (by k_mem) ?_
  | refine kd_method PySem.F.slot_dict_pop PySem.F.type_dict_pop (by k_asm) (by k_mem) ?_
  | refine kd_method PySem.F.slot_dict_get PySem.F.type_dict_get (by k_asm) (by k_mem) ?_
  | refine kd_method PySem.F.slot_dict_update PySem.F.type_dict_update (by k_asm) (by k_mem) ?_
  | refine kd_method PySem.F.slot_dict_items PySem.F.type_dict_items (by k_asm) (by k_mem) ?_)))
local macro_rules | `(tactic| walk_at "setItem ref str") => `(tactic| (k_here; (with_reducible show wpAny _ _ (setItem (Value.ref _) (Value.str _ _) (Value.int _ _)) _ _ _); k_dflt (refine' kd_setItem ?F ?N ?U ?E ?z ?_; (case F => k_asm); (case N => k_asm); (case U => k_updF); (case E => assumption); (case z => assumption)); intro h' es' n' F' N' q0'; (try dsimp only at N')))
local macro_rules | `(tactic| walk_at "delItem ref") => `(tactic| (k_here; (with_reducible show wpAny _ _ (delItem (Value.ref _) (Value.str _ _)) _ _ _); k_dflt (refine' kd_delItem ?F ?N ?U ?E ?z ?s ?A ?_ ?_; (case F => k_asm); (case N => k_asm); (case U => k_updF); (case E => assumption); (case z => assumption); (case s => assumption); (case A => exact rfl)); rotate_left; (intro v' q0' h' es' n' F' N' q1'; try dsimp only at N'); rotate_left; (intro q0' h' e' hx')))
local macro_rules | `(tactic| walk_at "subscriptTail") => `(tactic| (k_here; (with_reducible show wpAny _ _ (subscriptTail _ _ (Value.ref _) (Value.str _ _)) _ _ _); k_dflt (refine' kd_item ?N ?p ?E ?s ?A ?_ ?_; (case N => k_asm); (case p => k_mem); (case E => assumption); (case s => assumption); (case A => exact rfl)); rotate_left; (intro v' t' q0'); rotate_left; (intro q0' h' e' hx')))
local macro_rules | `(tactic| walk_at "compareOp In str ref") => `(tactic| (k_here; k_dflt (refine' kd_in ?N ?p ?E ?s ?_; (case N => k_asm); (case p => k_mem); (case E => assumption); (case s => assumption))))
local macro_rules | `(tactic| walk_at "call builtin:dict.get") => `(tactic| (k_here; (with_reducible show wpAny _ _ (call (Value.builtin "dict.get") [Value.ref _, Value.str _ _, _]) _ _ _); k_dflt (refine' kd_get ?N ?p ?E ?s ?_ ?_; (case N => k_asm); (case p => k_mem); (case E => assumption); (case s => assumption)); rotate_left; (intro v' t' q0'); rotate_left; (intro q0')))
local macro_rules | `(tactic| walk_at "call builtin:dict.setdefault") => `(tactic| (k_here; (with_reducible show wpAny _ _ (call (Value.builtin "dict.setdefault") [Value.ref _, Value.str _ _, Value.int _ _]) _ _ _); k_dflt (refine' kd_setdefault ?F ?N ?U ?E ?z ?s ?_ ?_; (case F => k_asm); (case N => k_asm); (case U => k_updF); (case E => assumption); (case z => assumption); (case s => assumption)); rotate_left; (intro q0' h' es' n' F' N' q1'; try dsimp only at N'); rotate_left; (intro v' t' q0')))
local macro_rules | `(tactic| walk_at "call builtin:dict.pop") => `(tactic| (k_here; (with_reducible show wpAny _ _ (call (Value.builtin "dict.pop") [Value.ref _, Value.str _ _, _]) _ _ _); k_dflt (refine' kd_pop ?F ?N ?U ?E ?z ?s ?_ ?_; (case F => k_asm); (case N => k_asm); (case U => k_updF); (case E => assumption); (case z => assumption); (case s => assumption)); rotate_left; (intro v' t' q0' h' es' n' F' N' q1'; try dsimp only at N'); rotate_left; (intro q0')))
local macro_rules | `(tactic| walk_at "call builtin:dict.popitem") => `(tactic| (k_here; (with_reducible show wpAny _ _ (call (Value.builtin "dict.popitem") [Value.ref _]) _ _ _); k_dflt (refine' kd_popitem ?F ?N ?U ?E ?z ?s ?A ?_ ?_; (case F => k_asm); (case N => k_asm); (case U => k_updF); (case E => assumption); (case z => assumption); (case s => assumption); (case A => exact rfl)); rotate_left; (intro x' v' t1' t2' q0' a' h' es' n' F' N' q1'; try dsimp only at N'); rotate_left; (intro q0' h' e' t' hx')))
local macro_rules | `(tactic| walk_at "call builtin:dict.update") => `(tactic| (k_here; (with_reducible show wpAny _ _ (call (Value.builtin "dict.update") [Value.ref _, Value.ref _]) _ _ _); k_dflt (refine' kd_update ?F ?N ?U ?E ?z ?d1 ?m1 ?s ?o ?_; (case F => k_asm); (case N => k_asm); (case U => k_updF); (case E => assumption); (case z => assumption); (case d1 => assumption); (case m1 => k_mem); (case s => assumption); (case o => k_ne)); intro h' es' n' F' N' q0'; (try dsimp only at N')))

theorem c_deedD {w : World} {A₀ : Around} {base h₀ : Heap} {outer : List Env} {env : Env} {d u : Nat} {gs : Option (List Code)} {L : Addr} {m mg mb : Str → Option Value} {s : Shared} {p : Program} {loose : List Str} {mean : ExcName → Option Value}
    {told : Addr} {es : List DictEntry} {n : Nat} {c : Ents} {rest : List (Addr × Obj)} {Q : Value → Shared → Prop} {E : Value → Shared → Prop} {x : Str} {t : Tok} {kind v : Int} {tkd tv : Tok}
    (hcr : d + 100 < recursionLimit) (hcu : u + 400 < cLine)
    (B : Below A₀ base outer h₀) (F : Fr h₀ L s.heap m) (X₀ : (hd.heap_39 w.params).In h₀) (N : News h₀ L s.heap ((told, dictOf es n) :: rest)) (T : Top p loose mean mg mb h₀)
    (hf : env.frame = some L) (hk : env.scope.kind = .function) (hr : ∀ p ∈ rest, p.1 ≠ told) (hE : EK w es c) (hxs : (told == sysModules) = false)  (hsz : c.length ≤ 1000)
    (hF : ∀ h' tk es' n' c' val r, deed kind c x v = (some r, c') → RF r val → EK w es' c' → Fr h₀ L h' m → News h₀ L h' ((told, dictOf es' n') :: rest) → Q val { s with heap := h', toks := tk })
    (hR : ∀ h' tk es' n' c' a o r, deed kind c x v = (some r, c') → RR r o → EK w es' c' → Fr h₀ L h' m → News h₀ L h' ((a, o) :: (told, dictOf es' n') :: rest) → Q (.ref a) { s with heap := h', toks := tk })
    (hX : ∀ h' tk e g', deed kind c x v = (none, c) → Fr h₀ L g' m → g'.UpToSlots h' → RaisedN base (env :: outer) e (.type "KeyError") ((told, dictOf es n) :: rest) h' → E (.ref e) { s with heap := h', toks := tk }) :
    wpAny (model PP w) ⟨none, d, some (env :: outer), gs, u⟩ (call (.ref 188) [.ref told, .int kind tkd, .str x t, .int v tv]) Q E s := by
  have _fill : PySem.Challenge.rw_bl0005_01 = PySem.Challenge.rw_bl0005_01 ∧ hd.heap_39 = hd.heap_39 := by k_fill; exact ⟨rfl, rfl⟩
  refine wpAny_call ?_
  refine' code_def B F X₀ N T rfl hf hk ?k6 ?k7 ?k8 ?k9 ?kB ?_ ?c2 ?c3 ?c4 ?c5
  (case k6 => k_is)
  (case k7 => k_is)
  (case k8 => k_room)
  (case k9 => first | exact BindsTo.of_eq rfl | exact binds_K (X₀.keeps F.keep) rfl (by k_is) rfl rfl rfl)
  (case kB => exact locs rfl)
  (case c2 => exact rfl)
  (case c3 => exact rfl)
  (case c4 => exact rfl)
  (case c5 => decide)
  intro g' L' h' FG' F' N' B' X' T'
  (try dsimp only)
  (try k_lift B')
  k_steps
  all_goals first
    | exact hF _ _ _ _ _ _ _ (deed0 (by assumption)) rfNone (by assumption) (by assumption) (news_sub (by assumption) (fun p hp => by repeat (first | exact hp | refine List.Mem.tail _ ?_)))
    | exact hF _ _ _ _ _ _ _ (deed1s (by assumption) (by assumption) (by assumption)) rfNone (by assumption) (by assumption) (news_sub (by assumption) (fun p hp => by repeat (first | exact hp | refine List.Mem.tail _ ?_)))
    | exact hF _ _ _ _ _ _ _ (deed2s (by assumption) (by assumption) (by assumption) (by assumption)) rfInt (by assumption) (by assumption) (news_sub (by assumption) (fun p hp => by repeat (first | exact hp | refine List.Mem.tail _ ?_)))
    | exact hF _ _ _ _ _ _ _ (deed3s (by assumption) (by assumption) (by assumption) (by assumption) (by assumption)) rfInt (by assumption) (by assumption) (news_sub (by assumption) (fun p hp => by repeat (first | exact hp | refine List.Mem.tail _ ?_)))
    | exact hF _ _ _ _ _ _ _ (deed3n (by assumption) (by assumption) (by assumption) (by assumption) (by assumption)) rfInt (by assumption) (by assumption) (news_sub (by assumption) (fun p hp => by repeat (first | exact hp | refine List.Mem.tail _ ?_)))
    | exact hF _ _ _ _ _ _ _ (deed4s (by assumption) (by assumption) (by assumption) (by assumption) (by assumption) (by assumption)) rfInt (by assumption) (by assumption) (news_sub (by assumption) (fun p hp => by repeat (first | exact hp | refine List.Mem.tail _ ?_)))
    | exact hF _ _ _ _ _ _ _ (deed4n (by assumption) (by assumption) (by assumption) (by assumption) (by assumption) (by assumption)) rfInt (by assumption) (by assumption) (news_sub (by assumption) (fun p hp => by repeat (first | exact hp | refine List.Mem.tail _ ?_)))
    | exact hF _ _ _ _ _ _ _ (deed6 (by assumption) (by assumption) (by assumption) (by assumption) (by assumption) (by assumption) (by assumption)) rfNone (by assumption) (by assumption) (news_sub (by assumption) (fun p hp => by repeat (first | exact hp | refine List.Mem.tail _ ?_)))
    | exact hR _ _ _ _ _ _ _ _ (deed5s (by assumption) (by assumption) (by assumption) (by assumption) (by assumption) (by assumption) (by assumption)) (rrPairS (by assumption)) (by assumption) (by assumption) (news_sub (by assumption) (fun p hp => by rcases List.mem_cons.mp hp with rfl | hp; (k_mem); (repeat (first | exact hp | refine List.Mem.tail _ ?_))))
    | exact hR _ _ _ _ _ _ _ _ (deed5n (by assumption) (by assumption) (by assumption) (by assumption) (by assumption) (by assumption) (by assumption)) (rrPairN (by assumption)) (by assumption) (by assumption) (news_sub (by assumption) (fun p hp => by rcases List.mem_cons.mp hp with rfl | hp; (k_mem); (repeat (first | exact hp | refine List.Mem.tail _ ?_))))
    | exact hR _ _ _ _ _ _ _ _ (deed7s (by assumption) (by assumption) (by assumption) (by assumption) (by assumption) (by assumption) (by assumption) (by assumption)) rrItem (by assumption) (by assumption) (news_sub (by assumption) (fun p hp => by rcases List.mem_cons.mp hp with rfl | hp; (k_mem); (repeat (first | exact hp | refine List.Mem.tail _ ?_))))
    | exact hX _ _ _ _ (deed1n (by assumption) (by assumption) (by assumption)) (by assumption) (by assumption) (raised_sub (by assumption) (fun p hp => by repeat (first | exact hp | refine List.Mem.tail _ ?_)))
    | exact hX _ _ _ _ (deed2n (by assumption) (by assumption) (by assumption) (by assumption)) (by assumption) (by assumption) (raised_sub (by assumption) (fun p hp => by repeat (first | exact hp | refine List.Mem.tail _ ?_)))
    | exact hX _ _ _ _ (deed7n (by assumption) (by assumption) (by assumption) (by assumption) (by assumption) (by assumption) (by assumption) (by assumption)) (by assumption) (by assumption) (raised_sub (by assumption) (fun p hp => by repeat (first | exact hp | refine List.Mem.tail _ ?_)))
end Mine
end
section
open PySem PySem.W PyProof.Rows PySem.Calls
set_option maxRecDepth 100000
set_option maxHeartbeats 8000000
theorem Mine.walkResetS17 : True := by w_top off; trivial
namespace Mine

theorem g_deed {w : World} {A₀ : Around} {base h₀ : Heap} {outer : List Env} {env : Env} {A : Around} {L : Addr} {m mg mb : Str → Option Value} {s : Shared} {p : Program} {loose : List Str} {mean : ExcName → Option Value}
    {told dx : Addr} {es : List DictEntry} {n : Nat} {c : Ents} {rest : List (Addr × Obj)} {Q : Value → Shared → Prop} {E : Value → Shared → Prop} {x ux : Str} {t : Tok} {kind v : Int} {tkd tv : Tok}
    (hA0 : A.handled = none) (hA : A.frames = some (env :: outer)) (hcr : A.depth + 100 < recursionLimit) (hcu : A.units + 400 < cLine)
    (B : Below A₀ base outer h₀) (F : Fr h₀ L s.heap m) (X₀ : (hd.heap_39 w.params).In h₀) (N : News h₀ L s.heap ((told, cdObj dx es n) :: (dx, dictOf [] 0) :: rest)) (T : Top p loose mean mg mb h₀)
    (hf : env.frame = some L) (hk : env.scope.kind = .function) (hr : ∀ p ∈ rest, p.1 ≠ told) (hdx : dx ≠ told) (hE : EK w es c) (hxs : (told == sysModules) = false) (hup : Txt.upper x = ux) (hul : PySem.Builtin.Str.tooLong (Txt.upper x).length = false) (hsz : c.length ≤ 1000)
    (hF : ∀ h' tk es' n' c' val r, deed kind c ux v = (some r, c') → RF r val → EK w es' c' → Fr h₀ L h' m → News h₀ L h' ((told, cdObj dx es' n') :: (dx, dictOf [] 0) :: rest) → Q val { s with heap := h', toks := tk })
    (hR : ∀ h' tk es' n' c' a o r, deed kind c ux v = (some r, c') → RR r o → EK w es' c' → Fr h₀ L h' m → News h₀ L h' ((a, o) :: (told, cdObj dx es' n') :: (dx, dictOf [] 0) :: rest) → Q (.ref a) { s with heap := h', toks := tk })
    (hX : ∀ h' tk e g', deed kind c ux v = (none, c) → Fr h₀ L g' m → g'.UpToSlots h' → RaisedN base (env :: outer) e (.type "KeyError") ((told, cdObj dx es n) :: (dx, dictOf [] 0) :: rest) h' → E (.ref e) { s with heap := h', toks := tk }) :
    wpAny (model PP w) A (call (.ref 188) [.ref told, .int kind tkd, .str x t, .int v tv]) Q E s := by
  obtain ⟨hd', d, fr, gs, u⟩ := A
  dsimp only at hA0 hA hcr hcu
  subst hA0 hA
  exact c_deed hcr hcu B F X₀ N T hf hk hr hdx hE hxs hup hul hsz hF hR hX

theorem g_deedD {w : World} {A₀ : Around} {base h₀ : Heap} {outer : List Env} {env : Env} {A : Around} {L : Addr} {m mg mb : Str → Option Value} {s : Shared} {p : Program} {loose : List Str} {mean : ExcName → Option Value}
    {told : Addr} {es : List DictEntry} {n : Nat} {c : Ents} {rest : List (Addr × Obj)} {Q : Value → Shared → Prop} {E : Value → Shared → Prop} {x : Str} {t : Tok} {kind v : Int} {tkd tv : Tok}
    (hA0 : A.handled = none) (hA : A.frames = some (env :: outer)) (hcr : A.depth + 100 < recursionLimit) (hcu : A.units + 400 < cLine)
    (B : Below A₀ base outer h₀) (F : Fr h₀ L s.heap m) (X₀ : (hd.heap_39 w.params).In h₀) (N : News h₀ L s.heap ((told, dictOf es n) :: rest)) (T : Top p loose mean mg mb h₀)
    (hf : env.frame = some L) (hk : env.scope.kind = .function) (hr : ∀ p ∈ rest, p.1 ≠ told) (hE : EK w es c) (hxs : (told == sysModules) = false)  (hsz : c.length ≤ 1000)
    (hF : ∀ h' tk es' n' c' val r, deed kind c x v = (some r, c') → RF r val → EK w es' c' → Fr h₀ L h' m → News h₀ L h' ((told, dictOf es' n') :: rest) → Q val { s with heap := h', toks := tk })
    (hR : ∀ h' tk es' n' c' a o r, deed kind c x v = (some r, c') → RR r o → EK w es' c' → Fr h₀ L h' m → News h₀ L h' ((a, o) :: (told, dictOf es' n') :: rest) → Q (.ref a) { s with heap := h', toks := tk })
    (hX : ∀ h' tk e g', deed kind c x v = (none, c) → Fr h₀ L g' m → g'.UpToSlots h' → RaisedN base (env :: outer) e (.type "KeyError") ((told, dictOf es n) :: rest) h' → E (.ref e) { s with heap := h', toks := tk }) :
    wpAny (model PP w) A (call (.ref 188) [.ref told, .int kind tkd, .str x t, .int v tv]) Q E s := by
  obtain ⟨hd', d, fr, gs, u⟩ := A
  dsimp only at hA0 hA hcr hcu
  subst hA0 hA
  exact c_deedD hcr hcu B F X₀ N T hf hk hr hE hxs  hsz hF hR hX
end Mine
end
section
open PySem PySem.W PyProof.Rows PySem.Calls
set_option maxRecDepth 100000
set_option maxHeartbeats 8000000
theorem Mine.walkResetS18 : True := by w_top off; trivial
namespace Mine
section
variable {prog : Program} {w : World} {A₀ A : Around} {s : Shared} {h₀ : Heap} {L : Addr} {m mg mb : Str → Option Value} {env : Env} {news : List (Addr × Obj)} {K : Frag} {p : Program} {loose : List Str} {mean : ExcName → Option Value}
theorem fr_less {g g2 h : Heap} (F : Fr g L h m) (st : g2.StaysIn g) (sz : g2.objs.size ≤ g.objs.size) : Fr g2 L h m := ⟨F.ns, fun b o e => F.keep b o (st b o e), Nat.le_trans sz F.above⟩
theorem below_hide {g : Heap} (B : Below A h₀ (env :: []) g) (hf : env.frame = some L) : Below A (hideAll g [L]) (env :: []) g := by
  refine ⟨B.stack, fun b o e => of_hideAll _ e, ?_⟩
  obtain ⟨hk, ⟨L₁, o, hf₁, _, ho, hd⟩, _⟩ := B.frames
  obtain rfl : L = L₁ := Option.some.inj (hf.symm.trans hf₁)
  exact ⟨hk, ⟨L, o, hf₁, hideAll_none _ (by simp), ho, hd⟩, trivial⟩
/-- a call of a plain def from the law's own frame; the end is left to R -/
theorem code_defR {R : Result → Shared → Prop} {name qual : Str} {params : Arguments} {body : List Stmt} {scope : Scope} {dV kV doc pm cdv ct oc : Value} {an od : Option Addr} {osl : Array (Option Value)} {f : Addr} {args : Args} {binds : List (Str × Value)}
    (B : Below A₀ h₀ [] h₀) (F : Fr h₀ L s.heap m) (X₀ : K.In h₀) (N : News h₀ L s.heap news) (T : Top p loose mean mg mb h₀) (hA : A.frames = some (env :: [])) (hf : env.frame = some L) (hke : env.scope.kind = .function)
    (ho : K.lookup f = some ⟨oc, od, .func (fnOf name qual params body scope dV kV doc pm an cdv ct), osl⟩) (hcd : codeIn K cdv qual = true) (hroom : A.depth < recursionLimit)
    (hbind : BindsTo s (fnOf name qual params body scope dV kV doc pm an cdv ct) args binds) (hloc : ∀ y ∈ binds, scope.names.lookup y.1 = some .local)
    (h : ∀ g g2 L' h₁, g2 = hideAll g [L] → Fr h₀ L g m → (∀ (v : Value) (s' : Shared) L'' m' news', Fr g L'' s'.heap m' → News g L'' s'.heap news' → (Fr h₀ L s'.heap m → News h₀ L s'.heap news' → R (.ok (.ret v)) s') → R (.ok (.ret v)) s') →
      (∀ b o, h₀.get? b = some o → g2.get? b = some o) → L ≠ L' → Fr g L' h₁ (fun y => binds.reverse.lookup y) → News g L' h₁ news → Below A g2 (env :: []) g → K.In g → Top p loose mean mg mb g → TopRead p loose mg mb g2 →
      wpAny (model prog w) (A.deeper (envOf qual scope L' f cdv)) (execs body (envOf qual scope L' f cdv))
        (fun fl s' => R (.ok (.ret (match fl with | .ret v => v | _ => .none))) s')
        (fun e s' => wpAny (model prog w) (A.deeper (envOf qual scope L' f cdv)) (leaving (envOf qual scope L' f cdv) e) (fun _ s'' => R (.error e) s'') (fun e' s'' => R (.error e') s'') s')
        { s with heap := h₁, toks := s.toks + binds.length })
    (hco : scope.isCoroutine = false) (hgen : scope.isGenerator = false) (hk : scope.kind = .function)
    (hcell : ∀ x ∈ scope.names, x.2 ≠ .cell) : codeAny (model prog w) A (.call (.ref f) args) R s := by
  have up : ∀ b o, h₀.get? b = some o → (hideAll (hideAll s.heap (news.map (·.1))) [L]).get? b = some o := fun b o e => by
    refine hideAll_get _ (hideAll_get _ (F.keep b o e) fun q => ?_) fun q => ?_
    · obtain ⟨p, hp, rfl⟩ := List.mem_map.mp q
      rw [(N p hp).2.2] at e; cases e
    · have := List.mem_singleton.mp q
      exact absurd (Nat.lt_of_lt_of_le (Heap.lt_size e) F.above) (by rw [this]; exact Nat.lt_irrefl _)
  refine codeAny_call_function (fd := fnOf name qual params body scope dV kV doc pm an cdv ct) (body := body) hroom ((X₀.keeps F.keep) _ _ ho) rfl hco hgen rfl (codeRec_of (X₀.keeps F.keep) hcd) (hbind _ _ _ _ ?_)
  obtain ⟨FG, BG, st, lv⟩ := groundX (R := R) B F N hA hf hke
  refine wpAny_newFunctionEnv hcell hloc (fun h₁ hns hsb => ⟨(T.nolimit.keeps F.keep).fresh _ hsb, codeAny_func ?_⟩) hk
  have hk₁ : ∀ b o, s.heap.get? b = some o → h₁.get? b = some o := fun b o e => hsb.extBut b o (Nat.ne_of_lt (Heap.lt_size e)) (Heap.get?_push_of_some _ e)
  show wpAny (model prog w) (A.deeper (envOf qual scope s.heap.objs.size f cdv)) (execs body (envOf qual scope s.heap.objs.size f cdv)) _ _ _
  exact h _ _ s.heap.objs.size h₁ rfl FG (fun v s' L'' m' news' F' N' k => lv v s' (leaveK_ F' N' k)) up (Nat.ne_of_lt F.ns.lt)
    ⟨hns, fun b o e => hk₁ b o (of_hideAll _ e), Nat.le_of_eq (hideAll_size _ _)⟩
    (fun p hp => ⟨hk₁ _ _ (N p hp).1, Nat.ne_of_lt (Heap.lt_size (N p hp).1), hideAll_none _ (List.mem_map_of_mem hp)⟩) (below_hide BG hf) (X₀.keeps st) (T.keeps st) (topRead_of (T.keeps up))
end
section
variable {prog : Program} {w : World} {A₀ : Around} {E : Value → Shared → Prop} {s' : Shared} {g2 h : Heap} {outer : List Env} {L a e : Addr} {m : Str → Option Value} {name : Str} {scope : Scope} {cd : Value}
  {n : Str} {b₀ : Stmt} {suite : List Stmt} {pos np : Pos} {rest : List ExceptHandler} {Q : Flow → Shared → Prop} {news : List (Addr × Obj)}
  {p : Program} {loose : List Str} {mg mb : Str → Option Value} {x : Str} {X T' : String}
/-- what the law's frame and ledger are while an exception is in the air -/
theorem raised_ledger {env : Env} {l : List Env} {cls : Value} {hz : Heap} (R : RaisedN g2 (env :: l) e cls news hz) (F : Fr g2 L h m) (up : h.UpToSlots hz) (hf : env.frame = some L) : Fr g2 L hz m ∧ News g2 L hz news := by
  obtain ⟨W, w0, sW, led, fly⟩ := R
  have gone : W.get? L = none := by
    obtain ⟨_, ⟨L', _, e1, e2, _⟩, _⟩ := fly.2.2.1
    rw [hf] at e1
    cases e1
    exact e2
  refine ⟨F.of_stays (flyingW_base sW fly).1 up, fun q hq => ⟨fly.1 _ _ (led q hq).1, fun z => ?_, (led q hq).2⟩⟩
  have := (led q hq).1
  rw [z, gone] at this
  cases this
/-- the frame is noted, and the exception is taken out of the air -/
theorem raised_noted {M : Model} {A : Around} {env : Env} {l : List Env} {cls : Value} {Q : Shared → Prop} (hfr : A.frames = some (env :: l)) (hf : env.frame = some L) (R : RaisedN g2 (env :: l) e cls news s'.heap)
    (q : ∀ h3, s'.heap.UpToSlots h3 → RaisedN g2 (env :: l) e cls news h3 → Q { s' with heap := h3 }) :
    wpAny M A (noteFrame (.ref e) env) (fun _ s₂ => wpAny M A (setFlight (.ref e) none) (fun _ s₃ => Q s₃) E s₂) E s' := by
  obtain ⟨W, w0, sW, led, fly⟩ := R
  exact wpAny_looks_onW hfr hf fly fun _ held u1 => wpAny_landsW held fun h3 fly3 u2 => q h3 (u1.trans u2) ⟨W, w0, sW, led, fly3⟩
/-- a catch in any function: the stack alone is asked of what lies around -/
theorem caught_L (stack : A₀.frames = some outer) (F : Fr g2 L h m) (hsm : h.UpToSlots s'.heap) (R : RaisedN g2 (envOf name scope L a cd :: outer) e (.type X) news s'.heap)
    (T : TopRead p loose mg mb g2) (hv : bootBuiltins x = some (.type T'))
    (hexc : isSubtype (.type T') (.type "BaseException") = pure true) (hnt : isSubtype (.type ((Manifest.find? T').elim "type" fun y => y.metatype)) (.type "tuple") = pure false) (hsub : isSubtype (.type X) (.type T') = pure true)
    (k : ∀ h', h.UpToSlots h' → Fr g2 L h' m → News g2 L h' news →
      wpAny (model prog w) ((A₀.deeper (envOf name scope L a cd)).mark (some (.ref e))) (execs (b₀ :: suite) (envOf name scope L a cd)) Q E { s' with heap := h' })
    (hmg : mg x = none) (hn : x ≠ "__name__" := by decide +kernel)
    (hk : scope.kind = .function := by rfl) (hx : (envOf name scope L a cd).kindOf x = some .globalImplicit := by rfl) (hd : (x == ("__debug__" : Str)) = false := by decide)
    (hE : PassesOwnAt (model prog w) ((A₀.deeper (envOf name scope L a cd)).mark (some (.ref e))) (A₀.deeper (envOf name scope L a cd)) (envOf name scope L a cd) E := by passes_own) :
    wpAny (model prog w) (A₀.deeper (envOf name scope L a cd)) (noteFrame (.ref e) (envOf name scope L a cd))
      (fun _ s₂ => wpAny (model prog w) (A₀.deeper (envOf name scope L a cd)) (setFlight (.ref e) none) (fun _ s₃ =>
        wpAny (model prog w) (A₀.deeper (envOf name scope L a cd)) (handleBy (.ref e) (envOf name scope L a cd) (.ExceptHandler (some (.Name x np)) none (b₀ :: suite) pos :: rest)) Q E s₃) E s₂) E s' := by
  refine raised_noted (Around.frames_deeper stack) rfl R fun h3 u3 R3 => ?_
  have F3 := (raised_ledger R3 F (hsm.trans u3) rfl).1
  obtain ⟨W, w0, sW, led, fly⟩ := R3
  obtain ⟨ob, hob, hobc⟩ := (flyingW_base sW fly).there
  refine wpAny_handleBy_builtin (X := X) (T := T') (b := true) hexc hnt hsub (ld_builtin_at F3 T.g hmg T.b ((T.builtins x hn).trans hv) ⟨rfl, ⟨ob, hob, hobc⟩, lands_againW fly fun h6 fly6 u6 => ?_⟩ hk hx hd)
  have now := raised_ledger ⟨W, w0, sW, led, fly6⟩ F ((hsm.trans u3).trans u6) rfl
  exact wpAny_passesOwnAt hE (k h6 ((hsm.trans u3).trans u6) now.1 now.2)
end
section
variable {h₀ g g2 gx h' h'' : Heap} {L L' : Addr} {m m' : Str → Option Value} {news news' : List (Addr × Obj)}
/-- the law's namespace onto the ledger of the frame that has caught -/
theorem lawns (FG : Fr h₀ L g m) (Fx : Fr g L' gx m') (usm : gx.UpToSlots h') (N2 : News g2 L' h' news) (e2 : g2 = hideAll g [L]) (hne : L ≠ L') :
    ∃ oL, (∀ h'' : Heap, h''.get? L = some oL → h''.Ns L m) ∧ News g2 L' h' ((L, oL) :: news) := by
  have hns : h'.Ns L m := usm.ns (FG.ns.keeps Fx.keep)
  obtain ⟨oL, es, ep, hL, r⟩ := hns
  refine ⟨oL, fun h'' e => ⟨oL, es, ep, e, r⟩, fun p hp => ?_⟩
  rcases List.mem_cons.mp hp with rfl | hp
  · exact ⟨hL, hne, by rw [e2]; exact hideAll_none _ (by simp)⟩
  · exact N2 p hp
theorem fin_L {oL tt : Obj} {T : Addr} (FG : Fr h₀ L g m) (up : ∀ b o, h₀.get? b = some o → g2.get? b = some o) (hns : ∀ h'' : Heap, h''.get? L = some oL → h''.Ns L m) (hoff : ∀ p ∈ news, p.1 ≠ L)
    (F2 : Fr g2 L' h'' m') (N2 : News g2 L' h'' ((T, tt) :: (L, oL) :: news)) (hT : L < T) :
    Fr h₀ L h'' m ∧ News h₀ L h'' ((T, tt) :: news) := by
  refine ⟨⟨hns _ (N2 _ (.tail _ (.head _))).1, fun b o e => F2.keep b o (up b o e), FG.above⟩, fun p hp => ?_⟩
  have hm : p ∈ ((T, tt) :: (L, oL) :: news) := by
    rcases List.mem_cons.mp hp with rfl | hp
    · exact .head _
    · exact .tail _ (.tail _ hp)
  refine ⟨(N2 p hm).1, ?_, ?_⟩
  · rcases List.mem_cons.mp hp with rfl | hp
    · exact fun e => absurd hT (by rw [show T = L from e]; exact Nat.lt_irrefl _)
    · exact hoff p hp
  · cases q : h₀.get? p.1 with
    | none => rfl
    | some o => have := (N2 p hm).2.2; rw [up _ _ q] at this; cases this
end
end Mine
end
section
open PySem PySem.W PyProof.Rows PySem.Calls
set_option maxRecDepth 100000
set_option maxHeartbeats 8000000
theorem Mine.walkResetS19 : True := by w_top off; trivial
namespace Mine
local macro_rules | `(tactic| k_ne) => `(tactic| (refine neN ?_; (try dsimp only); first | with_reducible assumption | with_reducible exact Ne.symm (by assumption) | with_reducible exact Nat.ne_of_lt (by assumption) | with_reducible exact Nat.ne_of_gt (by assumption)))
local macro_rules | `(tactic| k_in) => `(tactic| first | with_reducible assumption | with_reducible exact Frag.In.keeps (by assumption) (Fr.keep (by assumption)))
local macro_rules | `(tactic| walk_at "callWith ref") => `(tactic| (k_here; k_dflt (first
  | ((with_reducible show wpAny _ _ (callWith _ _ _ (backTo _ (starEach (_ :: _) _)) _) _ _ _); refine' callWith_K ?k1 ?k2 ?_; (case k1 => k_asm); (case k2 => k_is); k_whole)
  | ((with_reducible show wpAny _ _ (callWith _ _ _ (backTo _ (starEach [] _)) _) _ _ _); refine' callWith_K0 ?k1 ?k2 ?_; (case k1 => k_in); (case k2 => k_is); k_whole))))
local macro_rules | `(tactic| walk_at "eval Name") => `(tactic| (k_here; (fail_if_success (with_reducible show wpAny _ _ (eval (Expr.Name _ _) (compEnvC _ _ _ _)) _ _ _)); k_dflt (first
  | (refine' nameX_L ?F ?v ?_ ?a ?b; (case F => k_asm); (case a => rfl); (case b => rfl); (case v => rfl); k_whole)
  | (refine' nameX_C ?N ?c ?m ?d ?_ ?a ?b; (case a => rfl); (case b => rfl); (case N => k_asm); (case c => rfl); (case m => k_mem); (case d => k_asm); k_whole)
  | (refine' nameX_K ?F ?X ?T ?e ?_ ?a ?b; (case F => k_asm); (case X => k_asm); (case T => k_asm); (case a => rfl); (case b => rfl); (case e => k_is); k_whole)
  | (refine' nameX_B ?F ?X ?T ?e ?v ?n ?_ ?a ?b; (case F => k_asm); (case X => k_asm); (case T => k_asm); (case a => rfl); (case b => rfl); (case e => k_is); (case v => boot_fast); (case n => decide); k_whole))))
local macro_rules | `(tactic| k_inst) => `(tactic| (refine' inst_cd ?N ?h1 ?h2; (case N => k_asm); (case h1 => k_mem); (case h2 => k_mem)))
local macro_rules | `(tactic| k_room) => `(tactic| ((try simp only [depth_mark, depth_under_make, depth_under_kw, depth_in1, depth_deeper, depth_caller]); (try simp only [Around.deeper]); omega))
local macro_rules | `(tactic| k_all) => `(tactic| assumption)
local macro_rules | `(tactic| walk_at "wpAt") => `(tactic| (ks_step "eval Call"; (refine at_MethodCall ?_ ?hfo ?hli); (case hfo => first | rfl | kernel_rfl); (case hli => first | rfl | kernel_rfl)))
local macro_rules | `(tactic| walk_at "wpAt") => `(tactic| (ks_step "exec Expr"; (refine ks_wpAt_Expr_any ?_ ?hint ?hsw); (case hint => first | rfl | kernel_rfl); (case hsw => first | rfl | kernel_rfl)))
local macro_rules | `(tactic| walk_at "getMethod ref") => `(tactic| (k_here; k_dflt (refine' method_b ?F ?X ?N ?so ?hx ?ho ?hm ?md ?hn ?_; (case F => k_asm); (case X => k_asm); (case N => k_asm); (case so => k_mem); (case hx => k_mem); (case ho => k_is); (case hm => ks_is); (case md => first | exact mdp_contains | exact mdp_getitem | exact mdp_get | exact mdp_setdefault | exact mdp_pop | exact mdp_popitem | exact mdp_setitem | exact mdp_delitem | exact mdp_init); (case hn => decide); intro q' h' t' F' N' l1; (replace l1 := allNe_of l1; simp only [AllNe, and_true] at l1))))
local macro_rules | `(tactic| walk_at "call ref") => `(tactic| (k_here; k_dflt (first
  | (refine' kb_contains ?F ?X ?N ?q ?x ?E ?s ?_; (case F => k_asm); (case X => k_asm); (case N => k_asm); (case q => k_mem); (case x => k_mem); (case E => assumption); (case s => assumption))
  | (refine' kb_getitem ?F ?X ?N ?q ?x ?E ?s ?hA ?_ ?_; (case F => k_asm); (case X => k_asm); (case N => k_asm); (case q => k_mem); (case x => k_mem); (case E => assumption); (case s => assumption); (case hA => exact rfl); rotate_left; (intro v' t' e'); rotate_left; (intro e' h' x' hx'))
  | (refine' kb_get ?F ?X ?N ?q ?x ?E ?s ?_ ?_; (case F => k_asm); (case X => k_asm); (case N => k_asm); (case q => k_mem); (case x => k_mem); (case E => assumption); (case s => assumption); rotate_left; (intro v' t' e'); rotate_left; (intro e'))
  | (refine' kb_setdefault ?F ?X ?N ?q ?U ?E ?z ?s ?_ ?_; (case F => k_asm); (case X => k_asm); (case N => k_asm); (case q => k_mem); (case U => k_updF); (case E => assumption); (case z => assumption); (case s => assumption); rotate_left; (intro e' h' es' n' F' N' hE'; try dsimp only at N'); rotate_left; (intro v' t' e'))
  | (refine' kb_pop ?F ?X ?N ?q ?U ?E ?z ?s ?_ ?_; (case F => k_asm); (case X => k_asm); (case N => k_asm); (case q => k_mem); (case U => k_updF); (case E => assumption); (case z => assumption); (case s => assumption); rotate_left; (intro v' t' e' h' es' n' F' N' hE'; try dsimp only at N'); rotate_left; (intro e'))
  | (refine' kb_popitem ?F ?X ?N ?q ?U ?E ?z ?s ?hA ?_ ?_; (case F => k_asm); (case X => k_asm); (case N => k_asm); (case q => k_mem); (case U => k_updF); (case E => assumption); (case z => assumption); (case s => assumption); (case hA => exact rfl); rotate_left; (intro y' v' t1' t2' e' a' h' es' n' F' N' hE'; try dsimp only at N'); rotate_left; (intro e' h' x' t' hx'))
  | (refine' kb_setitem ?F ?X ?N ?q ?U ?E ?z ?_; (case F => k_asm); (case X => k_asm); (case N => k_asm); (case q => k_mem); (case U => k_updF); (case E => assumption); (case z => assumption); (intro h' es' n' F' N' hE'; try dsimp only at N'))
  | (refine' kb_delitem ?F ?X ?N ?q ?U ?E ?z ?s ?hA ?_ ?_; (case F => k_asm); (case X => k_asm); (case N => k_asm); (case q => k_mem); (case U => k_updF); (case E => assumption); (case z => assumption); (case s => assumption); (case hA => exact rfl); rotate_left; (intro v' e' h' es' n' F' N' hE'; try dsimp only at N'); rotate_left; (intro e' h' x' hx')))))
local macro_rules | `(tactic| walk_at "And") => `(tactic| ((with_reducible show BoundP _ _ _ _ _ ∧ _); refine ⟨boundP_of (by k_asm) (by k_mem), ?_⟩; try dsimp only [List.nil_append, List.cons_append]))
local macro_rules | `(tactic| walk_at "call builtin:str.upper") => `(tactic| (k_here; (show wpAny _ _ (call (Value.builtin "str.upper") [Value.str _ _]) _ _ _); (refine KXw.upper (by assumption) (by assumption) ?_); intro t' k'))
local macro_rules | `(tactic| walk_at "leaving ref") => `(tactic| (k_here; first
  | (refine' leave_newX ?k5 ?k6 ?k1 ?k0 ?k2 ?k3 ?_; (case k0 => assumption); (case k1 => assumption); (case k2 => assumption); (case k3 => k_asm); (case k5 => exact rfl); (case k6 => exact rfl); k_whole; intro h' R' U'; (try dsimp only at R' U' ⊢))
  | (refine' leave_onX ?k5 ?k1 ?k2 ?k3 ?k4 ?_; (case k3 => assumption); (case k1 => assumption); (case k4 => assumption); (case k2 => assumption); (case k5 => exact rfl); k_whole; intro h' R' U'; (try dsimp only at R' U' ⊢))))

local macro_rules | `(tactic| walk_at "my_sub") => `(tactic| (intro p hp; first | exact hp | exact .tail _ hp | exact .tail _ (.tail _ hp) | exact .tail _ (.tail _ (.tail _ hp)) | exact .tail _ (.tail _ (.tail _ (.tail _ hp))) | exact .tail _ (.tail _ (.tail _ (.tail _ (.tail _ hp))))))
local macro_rules | `(tactic| walk_at "my_sub2") => `(tactic| (intro p hp; rcases List.mem_cons.mp hp with rfl | hp; (exact List.Mem.head _); (apply List.Mem.tail; revert hp; revert p; walk_at "my_sub")))
local macro_rules | `(tactic| walk_at "call builtin:hasattr") => `(tactic| (k_here; (with_reducible show wpAny _ _ (call (Value.builtin "hasattr") [Value.ref _, Value.str _ _]) _ _ _); k_dflt (refine' ln_has (knd := PySem.strKind PP _) ?F ?X ?N ?p ?d ?_; (case F => k_asm); (case X => k_asm); (case N => k_asm); (case p => k_mem); (case d => assumption); intro h' F' N')))
local macro_rules | `(tactic| walk_at "call builtin:iter") => `(tactic| (k_here; (with_reducible show wpAny _ _ (call (Value.builtin "iter") [Value.ref _]) _ _ _); k_dflt (refine' ln_iter (knd := PySem.strKind PP _) ?F ?X ?N ?v ?p ?d ?_; (case F => k_asm); (case X => k_asm); (case N => k_asm); (case v => k_mem); (case p => k_mem); (case d => assumption); intro it' ep' h' hep' F' N' l1; (replace l1 := allNe_of l1; simp only [AllNe, and_true] at l1))))
local macro_rules | `(tactic| walk_at "pyIter ref") => `(tactic| ((with_reducible show wpAny _ _ (pyIter (Value.ref _)) (fun it s₂ => TurnsAt _ _ _ _ _ _ _ _ _ it s₂) _ _); (rename Fr _ _ _ _ => lF'); (rename News _ _ _ _ => lN'); (with_unfolding_all refine' my_items (knd := PySem.strKind PP _) (xs := _) ?hh lF' lN' ?p ?d ?ep ?off ?hx ?hl ?_); (case hh => exact rfl); (case p => k_mem); (case d => assumption); (case ep => assumption); (case off => ktu_offI); (case hx => first | exact items_nil | exact items_one); (case hl => exact rfl); clear lF' lN'))
local macro_rules | `(tactic| walk_at "exec For Tuple Name cons nil") => `(tactic| (k_here; (rename Fr _ _ _ _ => lF'); (with_unfolding_all refine' For_turns lF' ?_; k_whole)))
local macro_rules | `(tactic| walk_at "my_units") => `(tactic| ((try simp only [units_in1, PySem.Around.deeper_units, Around.mark_units, units_caller]); (try simp only [Around.deeper]); omega))
local macro_rules | `(tactic| walk_at "call ref") => `(tactic| (k_here; k_dflt (first
  | (refine' g_has_key ?hA0 ?hA ?hcr ?hcu ?B ?F ?X ?N ?U ?hm ?T ?hf ?hk ?hdx ?hE ?hxs ?hup ?hul ?_; (case hA0 => exact rfl); (case hA => exact rfl); (case hcr => k_room); (case hcu => walk_at "my_units"); (case B => k_asm); (case F => k_asm); (case X => k_asm); (case N => k_asm); (case U => k_updF); (case hm => k_mem); (case T => k_asm); (case hf => exact rfl); (case hk => exact rfl); (case hdx => first | assumption | k_ne); (case hE => assumption); (case hxs => assumption); (case hup => assumption); (case hul => assumption); (intro h' tk'  F' N'; try dsimp only at N'))
  | (refine' g_contains ?hA0 ?hA ?hcr ?hcu ?B ?F ?X ?N ?U ?hm ?T ?hf ?hk ?hdx ?hE ?hxs ?hup ?hul ?_; (case hA0 => exact rfl); (case hA => exact rfl); (case hcr => k_room); (case hcu => walk_at "my_units"); (case B => k_asm); (case F => k_asm); (case X => k_asm); (case N => k_asm); (case U => k_updF); (case hm => k_mem); (case T => k_asm); (case hf => exact rfl); (case hk => exact rfl); (case hdx => first | assumption | k_ne); (case hE => assumption); (case hxs => assumption); (case hup => assumption); (case hul => assumption); (intro h' tk'  F' N'; try dsimp only at N'))
  | (refine' g_get ?hA0 ?hA ?hcr ?hcu ?B ?F ?X ?N ?U ?hm ?T ?hf ?hk ?hdx ?hE ?hxs ?hup ?hul ?_ ?_; (case hA0 => exact rfl); (case hA => exact rfl); (case hcr => k_room); (case hcu => walk_at "my_units"); (case B => k_asm); (case F => k_asm); (case X => k_asm); (case N => k_asm); (case U => k_updF); (case hm => k_mem); (case T => k_asm); (case hf => exact rfl); (case hk => exact rfl); (case hdx => first | assumption | k_ne); (case hE => assumption); (case hxs => assumption); (case hup => assumption); (case hul => assumption); (intro h' tk' q0' F' N'; try dsimp only at N'); rotate_left; (intro h' tk' v' tv' q0' F' N'; try dsimp only at N'); rotate_left)
  | (refine' g_getitem ?hA0 ?hA ?hcr ?hcu ?B ?F ?X ?N ?U ?hm ?T ?hf ?hk ?hdx ?hE ?hxs ?hup ?hul ?_ ?_; (case hA0 => exact rfl); (case hA => exact rfl); (case hcr => k_room); (case hcu => walk_at "my_units"); (case B => k_asm); (case F => k_asm); (case X => k_asm); (case N => k_asm); (case U => k_updF); (case hm => k_mem); (case T => k_asm); (case hf => exact rfl); (case hk => exact rfl); (case hdx => first | assumption | k_ne); (case hE => assumption); (case hxs => assumption); (case hup => assumption); (case hul => assumption); (intro h' tk' v' tv' q0' F' N'; try dsimp only at N'); rotate_left; (intro h' tk' e' gx' q0' F' U' R'; try dsimp only at R'); rotate_left)
  | (refine' g_setitem ?hA0 ?hA ?hcr ?hcu ?B ?F ?X ?N ?U ?hm ?T ?hf ?hk ?hdx ?hE ?hxs ?hup ?hul ?hsz ?_; (case hA0 => exact rfl); (case hA => exact rfl); (case hcr => k_room); (case hcu => walk_at "my_units"); (case B => k_asm); (case F => k_asm); (case X => k_asm); (case N => k_asm); (case U => k_updF); (case hm => k_mem); (case T => k_asm); (case hf => exact rfl); (case hk => exact rfl); (case hdx => first | assumption | k_ne); (case hE => assumption); (case hxs => assumption); (case hup => assumption); (case hul => assumption); (case hsz => assumption); (intro h' tk' es' n' q0' F' N'; try dsimp only at N'))
  | (refine' g_delitem ?hA0 ?hA ?hcr ?hcu ?B ?F ?X ?N ?U ?hm ?T ?hf ?hk ?hdx ?hE ?hxs ?hup ?hul ?hsz ?_ ?_; (case hA0 => exact rfl); (case hA => exact rfl); (case hcr => k_room); (case hcu => walk_at "my_units"); (case B => k_asm); (case F => k_asm); (case X => k_asm); (case N => k_asm); (case U => k_updF); (case hm => k_mem); (case T => k_asm); (case hf => exact rfl); (case hk => exact rfl); (case hdx => first | assumption | k_ne); (case hE => assumption); (case hxs => assumption); (case hup => assumption); (case hul => assumption); (case hsz => assumption); (intro h' tk' es' n' v' q0' q1' F' N'; try dsimp only at N'); rotate_left; (intro h' tk' e' gx' q0' F' U' R'; try dsimp only at R'); rotate_left)
  | (refine' g_setdefault ?hA0 ?hA ?hcr ?hcu ?B ?F ?X ?N ?U ?hm ?T ?hf ?hk ?hdx ?hE ?hxs ?hup ?hul ?hsz ?_ ?_; (case hA0 => exact rfl); (case hA => exact rfl); (case hcr => k_room); (case hcu => walk_at "my_units"); (case B => k_asm); (case F => k_asm); (case X => k_asm); (case N => k_asm); (case U => k_updF); (case hm => k_mem); (case T => k_asm); (case hf => exact rfl); (case hk => exact rfl); (case hdx => first | assumption | k_ne); (case hE => assumption); (case hxs => assumption); (case hup => assumption); (case hul => assumption); (case hsz => assumption); (intro h' tk' v' tv' q0' F' N'; try dsimp only at N'); rotate_left; (intro h' tk' es' n' q0' q1' F' N'; try dsimp only at N'); rotate_left)
  | (refine' g_pop ?hA0 ?hA ?hcr ?hcu ?B ?F ?X ?N ?U ?hm ?T ?hf ?hk ?hdx ?hE ?hxs ?hup ?hul ?hsz ?_ ?_; (case hA0 => exact rfl); (case hA => exact rfl); (case hcr => k_room); (case hcu => walk_at "my_units"); (case B => k_asm); (case F => k_asm); (case X => k_asm); (case N => k_asm); (case U => k_updF); (case hm => k_mem); (case T => k_asm); (case hf => exact rfl); (case hk => exact rfl); (case hdx => first | assumption | k_ne); (case hE => assumption); (case hxs => assumption); (case hup => assumption); (case hul => assumption); (case hsz => assumption); (intro h' tk' q0' F' N'; try dsimp only at N'); rotate_left; (intro h' tk' es' n' v' tv' q0' q1' F' N'; try dsimp only at N'); rotate_left)
  | (refine' g_popitem ?hA0 ?hA ?hcr ?hcu ?B ?F ?X ?N ?U ?hm ?T ?hf ?hk ?hdx ?hE ?hxs ?hsz ?_ ?_; (case hA0 => exact rfl); (case hA => exact rfl); (case hcr => k_room); (case hcu => walk_at "my_units"); (case B => k_asm); (case F => k_asm); (case X => k_asm); (case N => k_asm); (case U => k_updF); (case hm => k_mem); (case T => k_asm); (case hf => exact rfl); (case hk => exact rfl); (case hdx => first | assumption | k_ne); (case hE => assumption); (case hxs => assumption); (case hsz => assumption); (intro h' tk' es' n' k' v' t1' t2' a' q0' q1' F' N'; try dsimp only at N'); rotate_left; (intro h' tk' e' gx' q0' F' U' R'; try dsimp only at R'); rotate_left))))
local macro_rules | `(tactic| walk_at "call ref") => `(tactic| (k_here; k_dflt (first
  | (refine' gm_update0 ?hA0 ?hA ?hcr ?hcu ?B ?F ?X ?N ?U ?hm ?T ?hf ?hk ?hdx ?hE ?hxs ?hqm ?_; (case hA0 => exact rfl); (case hA => exact rfl); (case hcr => k_room); (case hcu => walk_at "my_units"); (case B => k_asm); (case F => k_asm); (case X => k_asm); (case N => k_asm); (case hqm => k_mem); (case U => k_updF); (case hm => k_mem); (case T => k_asm); (case hf => exact rfl); (case hk => exact rfl); (case hdx => first | assumption | k_ne); (case hE => assumption); (case hxs => assumption); intro h' tk' F' N'; try dsimp only at N')
  | (refine' g_update1 ?hA0 ?hA ?hcr ?hcu ?B ?F ?X ?N ?U ?hm ?T ?hf ?hk ?hdx ?hE ?hxs ?hup ?hul ?hsz ?hd1 ?ls1 ?hm1 ?hdt ?_; (case hA0 => exact rfl); (case hA => exact rfl); (case hcr => k_room); (case hcu => walk_at "my_units"); (case B => k_asm); (case F => k_asm); (case X => k_asm); (case N => k_asm); (case U => k_updF); (case hm => k_mem); (case T => k_asm); (case hf => exact rfl); (case hk => exact rfl); (case hdx => first | assumption | k_ne); (case hE => assumption); (case hxs => assumption); (case hup => assumption); (case hul => assumption); (case hsz => assumption); (case hd1 => assumption); (case ls1 => assumption); (case hm1 => k_mem); (case hdt => k_ne); intro h' tk' es' n' q0' F' N'; try dsimp only at N'))))
local macro_rules | `(tactic| walk_at "getMethod ref") => `(tactic| (k_here; k_dflt (refine' method_told (T := "function") ?F ?X ?N ?x ?d ?f ?t ?T ?_; (case F => k_asm); (case X => k_asm); (case N => k_asm); (case x => k_mem); (case d => k_mem); (case f => k_is); (case t => exact looks_typeIn (by k_in) (by k_is)); (case T => decide))))
local macro_rules | `(tactic| walk_at "delItem ref") => `(tactic| (k_here; (with_reducible show wpAny _ _ (delItem (Value.ref _) _) _ _ _); k_dflt (refine' delItem_own ?F ?X ?I ?hQ ?hS ?hF ?_; (case F => k_asm); (case X => k_asm); (case I => k_inst); (case hS => k_is); (case hF => k_is); (case hQ => k_is); k_whole)))
local macro_rules | `(tactic| walk_at "eval Dict") => `(tactic| (k_here; k_dflt (refine' kdn_eval (knd := PySem.strKind PP _) ?F ?N ?b ?a ?l ?e ?n ?_; (case F => k_asm); (case N => k_asm); (case b => exact Top.nolimit (by k_asm)); (case a => rfl); (case l => rfl); (case e => exact List.cons_ne_nil _ _); (case n => exact Nat.le_of_ble_eq_true rfl)); intro d' h' o' F' N' l1 lo' hd'; (try k_lt l1)))
local macro_rules | `(tactic| walk_at "KdnMade") => `(tactic| (k_here; k_dflt (refine' kdn_made_str ?F ?N ?U ?d ?k ?n ?_; (case F => k_asm); (case N => k_asm); (case U => k_updF); (case d => k_asm); (case k => rfl); (case n => exact List.nodup_cons.mpr ⟨List.not_mem_nil, List.nodup_nil⟩); intro h' o' F' N' hd'); (try dsimp only at N')))
local macro_rules | `(tactic| walk_at "getMethod ref") => `(tactic| (k_here; (with_reducible show wpAny _ _ (getMethod (Value.ref _) _ _) _ _ _); k_dflt (first
  | refine kd_method PySem.F.slot_dict_setdefault PySem.F.type_dict_setdefault (by k_asm) (by k_mem) ?_
  | refine kd_method PySem.F.slot_dict_popitem PySem.F.type_dict_popitem (by k_asm) (by k_mem) ?_
  | refine kd_method PySem.F.slot_dict_pop PySem.F.type_dict_pop (by k_asm) (by k_mem) ?_
  | refine kd_method PySem.F.slot_dict_get PySem.F.type_dict_get (by k_asm) (by k_mem) ?_
  | refine kd_method PySem.F.slot_dict_update PySem.F.type_dict_update (by k_asm) (by k_mem) ?_
  | refine kd_method PySem.F.slot_dict_items PySem.F.type_dict_items (by k_asm) (by k_mem) ?_)))
local macro_rules | `(tactic| walk_at "setItem ref str") => `(tactic| (k_here; (with_reducible show wpAny _ _ (setItem (Value.ref _) (Value.str _ _) (Value.int _ _)) _ _ _); k_dflt (refine' kd_setItem ?F ?N ?U ?E ?z ?_; (case F => k_asm); (case N => k_asm); (case U => k_updF); (case E => assumption); (case z => assumption)); intro h' es' n' F' N' q0'; (try dsimp only at N')))
local macro_rules | `(tactic| walk_at "delItem ref") => `(tactic| (k_here; (with_reducible show wpAny _ _ (delItem (Value.ref _) (Value.str _ _)) _ _ _); k_dflt (refine' kd_delItem ?F ?N ?U ?E ?z ?s ?A ?_ ?_; (case F => k_asm); (case N => k_asm); (case U => k_updF); (case E => assumption); (case z => assumption); (case s => assumption); (case A => exact rfl)); rotate_left; (intro v' q0' h' es' n' F' N' q1'; try dsimp only at N'); rotate_left; (intro q0' h' e' hx')))
local macro_rules | `(tactic| walk_at "subscriptTail") => `(tactic| (k_here; (with_reducible show wpAny _ _ (subscriptTail _ _ (Value.ref _) (Value.str _ _)) _ _ _); k_dflt (refine' kd_item ?N ?p ?E ?s ?A ?_ ?_; (case N => k_asm); (case p => k_mem); (case E => assumption); (case s => assumption); (case A => exact rfl)); rotate_left; (intro v' t' q0'); rotate_left; (intro q0' h' e' hx')))
local macro_rules | `(tactic| walk_at "compareOp In str ref") => `(tactic| (k_here; k_dflt (refine' kd_in ?N ?p ?E ?s ?_; (case N => k_asm); (case p => k_mem); (case E => assumption); (case s => assumption))))
local macro_rules | `(tactic| walk_at "call builtin:dict.get") => `(tactic| (k_here; (with_reducible show wpAny _ _ (call (Value.builtin "dict.get") [Value.ref _, Value.str _ _, _]) _ _ _); k_dflt (refine' kd_get ?N ?p ?E ?s ?_ ?_; (case N => k_asm); (case p => k_mem); (case E => assumption); (case s => assumption)); rotate_left; (intro v' t' q0'); rotate_left; (intro q0')))
local macro_rules | `(tactic| walk_at "call builtin:dict.setdefault") => `(tactic| (k_here; (with_reducible show wpAny _ _ (call (Value.builtin "dict.setdefault") [Value.ref _, Value.str _ _, Value.int _ _]) _ _ _); k_dflt (refine' kd_setdefault ?F ?N ?U ?E ?z ?s ?_ ?_; (case F => k_asm); (case N => k_asm); (case U => k_updF); (case E => assumption); (case z => assumption); (case s => assumption)); rotate_left; (intro q0' h' es' n' F' N' q1'; try dsimp only at N'); rotate_left; (intro v' t' q0')))
local macro_rules | `(tactic| walk_at "call builtin:dict.pop") => `(tactic| (k_here; (with_reducible show wpAny _ _ (call (Value.builtin "dict.pop") [Value.ref _, Value.str _ _, _]) _ _ _); k_dflt (refine' kd_pop ?F ?N ?U ?E ?z ?s ?_ ?_; (case F => k_asm); (case N => k_asm); (case U => k_updF); (case E => assumption); (case z => assumption); (case s => assumption)); rotate_left; (intro v' t' q0' h' es' n' F' N' q1'; try dsimp only at N'); rotate_left; (intro q0')))
local macro_rules | `(tactic| walk_at "call builtin:dict.popitem") => `(tactic| (k_here; (with_reducible show wpAny _ _ (call (Value.builtin "dict.popitem") [Value.ref _]) _ _ _); k_dflt (refine' kd_popitem ?F ?N ?U ?E ?z ?s ?A ?_ ?_; (case F => k_asm); (case N => k_asm); (case U => k_updF); (case E => assumption); (case z => assumption); (case s => assumption); (case A => exact rfl)); rotate_left; (intro x' v' t1' t2' q0' a' h' es' n' F' N' q1'; try dsimp only at N'); rotate_left; (intro q0' h' e' t' hx')))
local macro_rules | `(tactic| walk_at "call builtin:dict.update") => `(tactic| (k_here; (with_reducible show wpAny _ _ (call (Value.builtin "dict.update") [Value.ref _, Value.ref _]) _ _ _); k_dflt (refine' kd_update ?F ?N ?U ?E ?z ?d1 ?m1 ?s ?o ?_; (case F => k_asm); (case N => k_asm); (case U => k_updF); (case E => assumption); (case z => assumption); (case d1 => assumption); (case m1 => k_mem); (case s => assumption); (case o => k_ne)); intro h' es' n' F' N' q0'; (try dsimp only at N')))
local macro_rules | `(tactic| walk_at "call ref") => `(tactic| (k_here; k_dflt (first
  | (refine' g_deed ?hA0 ?hA ?hcr ?hcu ?B ?F ?X ?N ?T ?hf ?hk ?hr ?hdx ?hE ?hxs ?hup ?hul ?hsz ?_ ?_ ?_; (case hA0 => exact rfl); (case hA => exact rfl); (case hcr => k_room); (case hcu => walk_at "my_units"); (case B => k_asm); (case F => k_asm); (case X => k_asm); (case N => k_asm); (case T => k_asm); (case hf => exact rfl); (case hk => exact rfl); (case hr => assumption); (case hdx => assumption); (case hE => assumption); (case hxs => assumption); (case hup => assumption); (case hul => assumption); (case hsz => assumption); (intro h' tk' es' n' c' val' r' q0' q1' q2' F' N'); rotate_left; (intro h' tk' es' n' c' a' o' r' q0' q1' q2' F' N'); rotate_left; (intro h' tk' e' gx' q0' F' U' R'; try dsimp only at R'); rotate_left)
  | (refine' g_deedD ?hA0 ?hA ?hcr ?hcu ?B ?F ?X ?N ?T ?hf ?hk ?hr ?hE ?hxs ?hsz ?_ ?_ ?_; (case hA0 => exact rfl); (case hA => exact rfl); (case hcr => k_room); (case hcu => walk_at "my_units"); (case B => k_asm); (case F => k_asm); (case X => k_asm); (case N => k_asm); (case T => k_asm); (case hf => exact rfl); (case hk => exact rfl); (case hr => assumption); (case hE => assumption); (case hxs => assumption); (case hsz => assumption); (intro h' tk' es' n' c' val' r' q0' q1' q2' F' N'); rotate_left; (intro h' tk' es' n' c' a' o' r' q0' q1' q2' F' N'); rotate_left; (intro h' tk' e' gx' q0' F' U' R'; try dsimp only at R'); rotate_left))))

theorem c_done {w : World} {A₀ : Around} {h₀ : Heap} {env : Env} {d u : Nat} {gs : Option (List Code)} {L : Addr} {m mg mb : Str → Option Value} {s : Shared} {p : Program} {loose : List Str} {mean : ExcName → Option Value}
    {told dx : Addr} {es : List DictEntry} {n : Nat} {c : Ents} {rest : List (Addr × Obj)} {Q : Value → Shared → Prop} {E : Value → Shared → Prop} {x ux : Str} {t : Tok} {kind v : Int} {tkd tv : Tok}
    (hcr : d + 120 < recursionLimit) (hcu : u + 500 < cLine)
    (B : Below A₀ h₀ [] h₀) (F : Fr h₀ L s.heap m) (X₀ : (hd.heap_39 w.params).In h₀) (N : News h₀ L s.heap ((told, cdObj dx es n) :: (dx, dictOf [] 0) :: rest)) (T : Top p loose mean mg mb h₀)
    (hf : env.frame = some L) (hk : env.scope.kind = .function) (hr : ∀ p ∈ rest, p.1 ≠ told) (hdx : dx ≠ told) (hE : EK w es c) (hxs : (told == sysModules) = false) (hup : Txt.upper x = ux) (hul : PySem.Builtin.Str.tooLong (Txt.upper x).length = false) (hsz : c.length ≤ 1000) (hKE : mg (Str.ofString "KeyError") = none)
    (hF : ∀ h' tk es' n' c' T val r, deed kind c ux v = (some r, c') → RF r val → EK w es' c' → Fr h₀ L h' m → News h₀ L h' ((T, { cls := .type "tuple", data := .seq #[.bool true, val] }) :: (told, cdObj dx es' n') :: (dx, dictOf [] 0) :: rest) → Q (.ref T) { s with heap := h', toks := tk })
    (hR : ∀ h' tk es' n' c' T a o r, deed kind c ux v = (some r, c') → RR r o → EK w es' c' → Fr h₀ L h' m → News h₀ L h' ((T, { cls := .type "tuple", data := .seq #[.bool true, .ref a] }) :: (a, o) :: (told, cdObj dx es' n') :: (dx, dictOf [] 0) :: rest) → Q (.ref T) { s with heap := h', toks := tk })
    (hX : ∀ h' tk T, deed kind c ux v = (none, c) → Fr h₀ L h' m → News h₀ L h' ((T, { cls := .type "tuple", data := .seq #[.bool false, .none] }) :: (told, cdObj dx es n) :: (dx, dictOf [] 0) :: rest) → Q (.ref T) { s with heap := h', toks := tk }) :
    wpAny (model PP w) ⟨none, d, some (env :: []), gs, u⟩ (call (.ref 195) [.ref told, .int kind tkd, .str x t, .int v tv]) Q E s := by
  have _fill : PySem.Challenge.rw_bl0005_01 = PySem.Challenge.rw_bl0005_01 ∧ hd.heap_39 = hd.heap_39 := by k_fill; exact ⟨rfl, rfl⟩
  refine wpAny_call ?_
  refine' code_defR B F X₀ N T rfl hf hk ?k6 ?k7 ?k8 ?k9 ?kB ?_ ?c2 ?c3 ?c4 ?c5
  (case k6 => k_is)
  (case k7 => k_is)
  (case k8 => k_room)
  (case k9 => first | exact BindsTo.of_eq rfl | exact binds_K (X₀.keeps F.keep) rfl (by k_is) rfl rfl rfl)
  (case kB => exact locs rfl)
  (case c2 => exact rfl)
  (case c3 => exact rfl)
  (case c4 => exact rfl)
  (case c5 => decide)
  intro g' g2' L' h' e2' FG' lv' up' neL' F' N' B' X' T' TR'
  have st2 : g2'.StaysIn g' := fun b o e => by rw [e2'] at e; exact of_hideAll _ e
  have sz2 : g2'.objs.size ≤ g'.objs.size := by rw [e2']; exact Nat.le_of_eq (hideAll_size _ _)
  (try dsimp only)
  k_steps
  rotate_left 2
  refine' caught_L (T' := "KeyError") ?st ?F ?u ?R ?T PyProof.Rows.Boot.«KeyError» kr_isExc_KeyError kr_notTuple_KeyError ?sub ?_ hKE
  (case st => exact rfl)
  (case R => assumption)
  (case F => exact fr_less (by assumption) st2 sz2)
  (case u => assumption)
  (case T => assumption)
  (case sub => (rw [isSubtype_type]; kernel_rfl))
  intro h' u' F' N'
  obtain ⟨oL', hns', NL'⟩ := lawns FG' (by assumption) u' N' e2' neL'
  clear N'
  k_steps
  · have fl := fin_L FG' up' hns' (fun p hp => (N p hp).2.1) (by assumption) (by assumption) (by first | assumption | omega | exact And.left (by assumption))
    exact hX _ _ _ (by assumption) fl.1 fl.2
  · exact lv' (.ref _) _ _ _ _ (by assumption) (by assumption) (fun F'' N'' => hF _ _ _ _ _ _ _ _ (by assumption) (by assumption) (by assumption) F'' (news_sub N'' (fun p hp => by rcases List.mem_cons.mp hp with rfl | hp; (k_mem); (repeat (first | exact hp | refine List.Mem.tail _ ?_)))))
  · exact lv' (.ref _) _ _ _ _ (by assumption) (by assumption) (fun F'' N'' => hR _ _ _ _ _ _ _ _ _ (by assumption) (by assumption) (by assumption) F'' (news_sub N'' (fun p hp => by rcases List.mem_cons.mp hp with rfl | hp; (k_mem); rcases List.mem_cons.mp hp with rfl | hp; (k_mem); (repeat (first | exact hp | refine List.Mem.tail _ ?_)))))


theorem c_doneD {w : World} {A₀ : Around} {h₀ : Heap} {env : Env} {d u : Nat} {gs : Option (List Code)} {L : Addr} {m mg mb : Str → Option Value} {s : Shared} {p : Program} {loose : List Str} {mean : ExcName → Option Value}
    {told : Addr} {es : List DictEntry} {n : Nat} {c : Ents} {rest : List (Addr × Obj)} {Q : Value → Shared → Prop} {E : Value → Shared → Prop} {x : Str} {t : Tok} {kind v : Int} {tkd tv : Tok}
    (hcr : d + 120 < recursionLimit) (hcu : u + 500 < cLine)
    (B : Below A₀ h₀ [] h₀) (F : Fr h₀ L s.heap m) (X₀ : (hd.heap_39 w.params).In h₀) (N : News h₀ L s.heap ((told, dictOf es n) :: rest)) (T : Top p loose mean mg mb h₀)
    (hf : env.frame = some L) (hk : env.scope.kind = .function) (hr : ∀ p ∈ rest, p.1 ≠ told) (hE : EK w es c) (hxs : (told == sysModules) = false)  (hsz : c.length ≤ 1000) (hKE : mg (Str.ofString "KeyError") = none)
    (hF : ∀ h' tk es' n' c' T val r, deed kind c x v = (some r, c') → RF r val → EK w es' c' → Fr h₀ L h' m → News h₀ L h' ((T, { cls := .type "tuple", data := .seq #[.bool true, val] }) :: (told, dictOf es' n') :: rest) → Q (.ref T) { s with heap := h', toks := tk })
    (hR : ∀ h' tk es' n' c' T a o r, deed kind c x v = (some r, c') → RR r o → EK w es' c' → Fr h₀ L h' m → News h₀ L h' ((T, { cls := .type "tuple", data := .seq #[.bool true, .ref a] }) :: (a, o) :: (told, dictOf es' n') :: rest) → Q (.ref T) { s with heap := h', toks := tk })
    (hX : ∀ h' tk T, deed kind c x v = (none, c) → Fr h₀ L h' m → News h₀ L h' ((T, { cls := .type "tuple", data := .seq #[.bool false, .none] }) :: (told, dictOf es n) :: rest) → Q (.ref T) { s with heap := h', toks := tk }) :
    wpAny (model PP w) ⟨none, d, some (env :: []), gs, u⟩ (call (.ref 195) [.ref told, .int kind tkd, .str x t, .int v tv]) Q E s := by
  have _fill : PySem.Challenge.rw_bl0005_01 = PySem.Challenge.rw_bl0005_01 ∧ hd.heap_39 = hd.heap_39 := by k_fill; exact ⟨rfl, rfl⟩
  refine wpAny_call ?_
  refine' code_defR B F X₀ N T rfl hf hk ?k6 ?k7 ?k8 ?k9 ?kB ?_ ?c2 ?c3 ?c4 ?c5
  (case k6 => k_is)
  (case k7 => k_is)
  (case k8 => k_room)
  (case k9 => first | exact BindsTo.of_eq rfl | exact binds_K (X₀.keeps F.keep) rfl (by k_is) rfl rfl rfl)
  (case kB => exact locs rfl)
  (case c2 => exact rfl)
  (case c3 => exact rfl)
  (case c4 => exact rfl)
  (case c5 => decide)
  intro g' g2' L' h' e2' FG' lv' up' neL' F' N' B' X' T' TR'
  have st2 : g2'.StaysIn g' := fun b o e => by rw [e2'] at e; exact of_hideAll _ e
  have sz2 : g2'.objs.size ≤ g'.objs.size := by rw [e2']; exact Nat.le_of_eq (hideAll_size _ _)
  (try dsimp only)
  k_steps
  rotate_left 2
  refine' caught_L (T' := "KeyError") ?st ?F ?u ?R ?T PyProof.Rows.Boot.«KeyError» kr_isExc_KeyError kr_notTuple_KeyError ?sub ?_ hKE
  (case st => exact rfl)
  (case R => assumption)
  (case F => exact fr_less (by assumption) st2 sz2)
  (case u => assumption)
  (case T => assumption)
  (case sub => (rw [isSubtype_type]; kernel_rfl))
  intro h' u' F' N'
  obtain ⟨oL', hns', NL'⟩ := lawns FG' (by assumption) u' N' e2' neL'
  clear N'
  k_steps
  · have fl := fin_L FG' up' hns' (fun p hp => (N p hp).2.1) (by assumption) (by assumption) (by first | assumption | omega | exact And.left (by assumption))
    exact hX _ _ _ (by assumption) fl.1 fl.2
  · exact lv' (.ref _) _ _ _ _ (by assumption) (by assumption) (fun F'' N'' => hF _ _ _ _ _ _ _ _ (by assumption) (by assumption) (by assumption) F'' (news_sub N'' (fun p hp => by rcases List.mem_cons.mp hp with rfl | hp; (k_mem); (repeat (first | exact hp | refine List.Mem.tail _ ?_)))))
  · exact lv' (.ref _) _ _ _ _ (by assumption) (by assumption) (fun F'' N'' => hR _ _ _ _ _ _ _ _ _ (by assumption) (by assumption) (by assumption) F'' (news_sub N'' (fun p hp => by rcases List.mem_cons.mp hp with rfl | hp; (k_mem); rcases List.mem_cons.mp hp with rfl | hp; (k_mem); (repeat (first | exact hp | refine List.Mem.tail _ ?_)))))

end Mine
end
section
open PySem PySem.W PyProof.Rows PySem.Calls
set_option maxRecDepth 100000
set_option maxHeartbeats 8000000
theorem Mine.walkResetS20 : True := by w_top off; trivial
namespace Mine
local macro_rules | `(tactic| k_ne) => `(tactic| (refine neN ?_; (try dsimp only); first | with_reducible assumption | with_reducible exact Ne.symm (by assumption) | with_reducible exact Nat.ne_of_lt (by assumption) | with_reducible exact Nat.ne_of_gt (by assumption)))
local macro_rules | `(tactic| k_in) => `(tactic| first | with_reducible assumption | with_reducible exact Frag.In.keeps (by assumption) (Fr.keep (by assumption)))
local macro_rules | `(tactic| walk_at "callWith ref") => `(tactic| (k_here; k_dflt (first
  | ((with_reducible show wpAny _ _ (callWith _ _ _ (backTo _ (starEach (_ :: _) _)) _) _ _ _); refine' callWith_K ?k1 ?k2 ?_; (case k1 => k_asm); (case k2 => k_is); k_whole)
  | ((with_reducible show wpAny _ _ (callWith _ _ _ (backTo _ (starEach [] _)) _) _ _ _); refine' callWith_K0 ?k1 ?k2 ?_; (case k1 => k_in); (case k2 => k_is); k_whole))))
local macro_rules | `(tactic| walk_at "eval Name") => `(tactic| (k_here; (fail_if_success (with_reducible show wpAny _ _ (eval (Expr.Name _ _) (compEnvC _ _ _ _)) _ _ _)); k_dflt (first
  | (refine' nameX_L ?F ?v ?_ ?a ?b; (case F => k_asm); (case a => rfl); (case b => rfl); (case v => rfl); k_whole)
  | (refine' nameX_C ?N ?c ?m ?d ?_ ?a ?b; (case a => rfl); (case b => rfl); (case N => k_asm); (case c => rfl); (case m => k_mem); (case d => k_asm); k_whole)
  | (refine' nameX_K ?F ?X ?T ?e ?_ ?a ?b; (case F => k_asm); (case X => k_asm); (case T => k_asm); (case a => rfl); (case b => rfl); (case e => k_is); k_whole)
  | (refine' nameX_B ?F ?X ?T ?e ?v ?n ?_ ?a ?b; (case F => k_asm); (case X => k_asm); (case T => k_asm); (case a => rfl); (case b => rfl); (case e => k_is); (case v => boot_fast); (case n => decide); k_whole))))
local macro_rules | `(tactic| k_room) => `(tactic| ((try simp only [depth_mark, depth_under_make, depth_under_kw, depth_in1, depth_deeper, depth_caller]); (try simp only [Around.deeper]); omega))
local macro_rules | `(tactic| k_all) => `(tactic| assumption)

theorem c_next {w : World} {A₀ : Around} {base h₀ : Heap} {outer : List Env} {env : Env} {d u : Nat} {gs : Option (List Code)} {L : Addr} {m mg mb : Str → Option Value} {s : Shared} {p : Program} {loose : List Str} {mean : ExcName → Option Value}
    {rest : List (Addr × Obj)} {Q : Value → Shared → Prop} {E : Value → Shared → Prop} {st sl : Addr} {i t many : Int} {ti tt tm : Tok} {e1 e2 : Nat} {vs : List Value} {ns : List Int}
    (hcr : d + 100 < recursionLimit) (hcu : u + 400 < cLine)
    (B : Below A₀ base outer h₀) (F : Fr h₀ L s.heap m) (X₀ : (hd.heap_39 w.params).In h₀) (N : News h₀ L s.heap ((st, W.listOf #[.ref sl, .int i ti, .int t tt] e1) :: (sl, W.listOf vs.toArray e2) :: rest)) (T : Top p loose mean mg mb h₀)
    (hf : env.frame = some L) (hk : env.scope.kind = .function) (hr : ∀ p ∈ ((sl, W.listOf vs.toArray e2) :: rest), p.1 ≠ st) (hI : IntsAre vs ns) (hlen : ns.length ≤ 40) (h0 : 0 ≤ i) (h1 : i ≤ ns.length) (hm : 0 < many) (hm2 : many ≤ 100)
    (hQ : ∀ h' tk i' t' ti' tt' e1' r tr, Fr h₀ L h' m → News h₀ L h' ((st, W.listOf #[.ref sl, .int i' ti', .int t' tt'] e1') :: (sl, W.listOf vs.toArray e2) :: rest) → 0 ≤ i' → i' ≤ ns.length → 0 ≤ r → r < many → Q (.int r tr) { s with heap := h', toks := tk }) :
    wpAny (model PP w) ⟨none, d, some (env :: outer), gs, u⟩ (call (.ref 181) [.ref st, .int many tm]) Q E s := by
  have _fill : PySem.Challenge.rw_bl0005_01 = PySem.Challenge.rw_bl0005_01 ∧ hd.heap_39 = hd.heap_39 := by k_fill; exact ⟨rfl, rfl⟩
  refine wpAny_call ?_
  refine' code_def B F X₀ N T rfl hf hk ?k6 ?k7 ?k8 ?k9 ?kB ?_ ?c2 ?c3 ?c4 ?c5
  (case k6 => k_is)
  (case k7 => k_is)
  (case k8 => k_room)
  (case k9 => first | exact BindsTo.of_eq rfl | exact binds_K (X₀.keeps F.keep) rfl (by k_is) rfl rfl rfl)
  (case kB => exact locs rfl)
  (case c2 => exact rfl)
  (case c3 => exact rfl)
  (case c4 => exact rfl)
  (case c5 => decide)
  intro g' L' h' FG' F' N' B' X' T'
  (try dsimp only)
  (try k_lift B')
  k_steps
  all_goals refine hQ _ _ _ _ _ _ _ _ _ (by assumption) (by assumption) ?_ ?_ ?_ ?_
  all_goals first
    | exact fmod_lo _ hm
    | exact fmod_hi _ hm
    | omega
end Mine
end
section
open PySem PySem.W PyProof.Rows PySem.Calls
set_option maxRecDepth 100000
set_option maxHeartbeats 8000000
theorem Mine.walkResetS21 : True := by w_top off; trivial
namespace Mine
local macro_rules | `(tactic| k_ne) => `(tactic| (refine neN ?_; (try dsimp only); first | with_reducible assumption | with_reducible exact Ne.symm (by assumption) | with_reducible exact Nat.ne_of_lt (by assumption) | with_reducible exact Nat.ne_of_gt (by assumption)))
local macro_rules | `(tactic| k_in) => `(tactic| first | with_reducible assumption | with_reducible exact Frag.In.keeps (by assumption) (Fr.keep (by assumption)))
local macro_rules | `(tactic| walk_at "callWith ref") => `(tactic| (k_here; k_dflt (first
  | ((with_reducible show wpAny _ _ (callWith _ _ _ (backTo _ (starEach (_ :: _) _)) _) _ _ _); refine' callWith_K ?k1 ?k2 ?_; (case k1 => k_asm); (case k2 => k_is); k_whole)
  | ((with_reducible show wpAny _ _ (callWith _ _ _ (backTo _ (starEach [] _)) _) _ _ _); refine' callWith_K0 ?k1 ?k2 ?_; (case k1 => k_in); (case k2 => k_is); k_whole))))
local macro_rules | `(tactic| walk_at "eval Name") => `(tactic| (k_here; (fail_if_success (with_reducible show wpAny _ _ (eval (Expr.Name _ _) (compEnvC _ _ _ _)) _ _ _)); k_dflt (first
  | (refine' nameX_L ?F ?v ?_ ?a ?b; (case F => k_asm); (case a => rfl); (case b => rfl); (case v => rfl); k_whole)
  | (refine' nameX_C ?N ?c ?m ?d ?_ ?a ?b; (case a => rfl); (case b => rfl); (case N => k_asm); (case c => rfl); (case m => k_mem); (case d => k_asm); k_whole)
  | (refine' nameX_K ?F ?X ?T ?e ?_ ?a ?b; (case F => k_asm); (case X => k_asm); (case T => k_asm); (case a => rfl); (case b => rfl); (case e => k_is); k_whole)
  | (refine' nameX_B ?F ?X ?T ?e ?v ?n ?_ ?a ?b; (case F => k_asm); (case X => k_asm); (case T => k_asm); (case a => rfl); (case b => rfl); (case e => k_is); (case v => boot_fast); (case n => decide); k_whole))))

def five : List Str := [Str.ofString "A", Str.ofString "B", Str.ofString "STRASSE", Str.ofString "É", Str.ofString "X-B"]
def KeyOK (x : Str) : Prop := Txt.upper x ∈ five ∧ PySem.Builtin.Str.tooLong (Txt.upper x).length = false
def keyOKb (x : Str) : Bool := five.contains (Txt.upper x) && !PySem.Builtin.Str.tooLong (Txt.upper x).length
theorem keyOK_of {x : Str} (h : keyOKb x = true) : KeyOK x := by
  unfold keyOKb at h
  simp only [Bool.and_eq_true, Bool.not_eq_true'] at h
  exact ⟨by simpa using h.1, h.2⟩
theorem five_up : five.all (fun x => decide (Txt.upper x = x) && keyOKb x) = true := by decide +kernel
theorem five_upper {x : Str} (h : x ∈ five) : Txt.upper x = x ∧ KeyOK x := by
  have := List.all_eq_true.mp five_up x h
  simp only [Bool.and_eq_true, decide_eq_true_eq] at this
  exact ⟨this.1, keyOK_of this.2⟩
theorem ten_ok : ["a", "A", "b", "straße", "STRASSE", "Strasse", "é", "É", "x-B", "X-b"].all (fun x => keyOKb (Str.ofString x)) = true := by decide +kernel
theorem ten_of {x : String} (h : x ∈ ["a", "A", "b", "straße", "STRASSE", "Strasse", "é", "É", "x-B", "X-b"]) : KeyOK (Str.ofString x) := keyOK_of (List.all_eq_true.mp ten_ok x h)
def TenKeys (its : Array Value) : Prop := its.size = 10 ∧ ∀ i, i < 10 → ∃ x t, its[i]? = some (.str x t) ∧ KeyOK x
theorem ten_keys {t0 t1 t2 t3 t4 t5 t6 t7 t8 t9 : Tok} : TenKeys #[.str (Str.ofString "a") t0, .str (Str.ofString "A") t1, .str (Str.ofString "b") t2, .str (Str.ofString "straße") t3, .str (Str.ofString "STRASSE") t4, .str (Str.ofString "Strasse") t5, .str (Str.ofString "é") t6, .str (Str.ofString "É") t7, .str (Str.ofString "x-B") t8, .str (Str.ofString "X-b") t9] := by
  refine ⟨rfl, fun i hi => ?_⟩
  match i, hi with
  | 0, _ => exact ⟨_, t0, rfl, ten_of (by simp)⟩
  | 1, _ => exact ⟨_, t1, rfl, ten_of (by simp)⟩
  | 2, _ => exact ⟨_, t2, rfl, ten_of (by simp)⟩
  | 3, _ => exact ⟨_, t3, rfl, ten_of (by simp)⟩
  | 4, _ => exact ⟨_, t4, rfl, ten_of (by simp)⟩
  | 5, _ => exact ⟨_, t5, rfl, ten_of (by simp)⟩
  | 6, _ => exact ⟨_, t6, rfl, ten_of (by simp)⟩
  | 7, _ => exact ⟨_, t7, rfl, ten_of (by simp)⟩
  | 8, _ => exact ⟨_, t8, rfl, ten_of (by simp)⟩
  | 9, _ => exact ⟨_, t9, rfl, ten_of (by simp)⟩
  | n + 10, h => omega
theorem ln_pick {w : World} {A : Around} {E : Value → Shared → Prop} {s : Shared} {h₀ : Heap} {L l : Addr} {news : List (Addr × Obj)} {its : Array Value} {n : Nat} {r : Int} {tr : Tok} {value slice : PySem.Expr} {Q : Value → Shared → Prop}
    (N : News h₀ L s.heap news) (hm : (l, W.listOf its n) ∈ news) (hk : TenKeys its) (h0 : 0 ≤ r) (h1 : r < 10) (h : ∀ x t, KeyOK x → Q (.str x t) s)
    (hs : subscripted slice false (.ref l) (.int r tr) = operate [.ref l, .int r tr] (getItem (.ref l) (.int r tr)) := by with_unfolding_all rfl) (hg : ∀ r, letTemporaryGo value (.ref l) r = pure () := by intro _; with_unfolding_all rfl) :
    wpAny (model PP w) A (subscriptTail value slice (.ref l) (.int r tr)) Q E s := by
  have hl : s.heap.IsList l its := PySem.IsL.isList (n := n) (N _ hm).1
  obtain ⟨x, t, e, ok⟩ := hk.2 r.toNat (by omega)
  exact subscriptTail_builtin hl.typeIs PySem.F.slot_list_getitem.lookup (wpAny_getItem_list hl h0 (by omega) e (h x t ok)) hs hg
local macro_rules | `(tactic| k_room) => `(tactic| ((try simp only [depth_mark, depth_under_make, depth_under_kw, depth_in1, depth_deeper, depth_caller]); (try simp only [Around.deeper]); omega))
local macro_rules | `(tactic| k_all) => `(tactic| assumption)

theorem c_keys {w : World} {A₀ : Around} {base h₀ : Heap} {outer : List Env} {env : Env} {d u : Nat} {gs : Option (List Code)} {L : Addr} {m mg mb : Str → Option Value} {s : Shared} {p : Program} {loose : List Str} {mean : ExcName → Option Value}
    {news : List (Addr × Obj)} {Q : Value → Shared → Prop} {E : Value → Shared → Prop}
    (hcr : d + 100 < recursionLimit) (hcu : u + 400 < cLine)
    (B : Below A₀ base outer h₀) (F : Fr h₀ L s.heap m) (X₀ : (hd.heap_39 w.params).In h₀) (N : News h₀ L s.heap news) (T : Top p loose mean mg mb h₀)
    (hf : env.frame = some L) (hk : env.scope.kind = .function)
    (hQ : ∀ h' tk l its, TenKeys its → Fr h₀ L h' m → News h₀ L h' ((l, W.listOf its 0) :: news) → (∀ q ∈ news, q.1 < l) → Q (.ref l) { s with heap := h', toks := tk }) :
    wpAny (model PP w) ⟨none, d, some (env :: outer), gs, u⟩ (call (.ref 174) []) Q E s := by
  have _fill : PySem.Challenge.rw_bl0005_01 = PySem.Challenge.rw_bl0005_01 ∧ hd.heap_39 = hd.heap_39 := by k_fill; exact ⟨rfl, rfl⟩
  refine wpAny_call ?_
  refine' code_def B F X₀ N T rfl hf hk ?k6 ?k7 ?k8 ?k9 ?kB ?_ ?c2 ?c3 ?c4 ?c5
  (case k6 => k_is)
  (case k7 => k_is)
  (case k8 => k_room)
  (case k9 => first | exact BindsTo.of_eq rfl | exact binds_K (X₀.keeps F.keep) rfl (by k_is) rfl rfl rfl)
  (case kB => exact locs rfl)
  (case c2 => exact rfl)
  (case c3 => exact rfl)
  (case c4 => exact rfl)
  (case c5 => decide)
  intro g' L' h' FG' F' N' B' X' T'
  (try dsimp only)
  (try k_lift B')
  k_steps
  all_goals exact hQ _ _ _ _ ten_keys (by assumption) (by assumption) (by assumption)
end Mine
end
section
open PySem PySem.W PyProof.Rows PySem.Calls PySem.SeqAt
set_option maxRecDepth 100000
set_option maxHeartbeats 8000000
theorem Mine.walkResetS22 : True := by w_top off; trivial
namespace Mine
section
variable {A : Around} {s : Shared}
abbrev tupO (vs : Array Value) : Obj := { cls := .type "tuple", data := .seq vs }
theorem isT {T : Addr} {vs : Array Value} (h : s.heap.get? T = some (tupO vs)) : s.heap.IsTuple T vs := ⟨_, h, rfl, _, rfl⟩
theorem eq_rf {r : Res} {v1 v2 : Value} (h1 : RF r v1) (h2 : RF r v2) : EqAt A s v1 v2 true := by
  cases r with
  | none =>
    rw [show v1 = .none from h1, show v2 = .none from h2]
    exact EqAt.same _
  | int v =>
    obtain ⟨t, rfl⟩ := h1
    obtain ⟨t', rfl⟩ := h2
    have := EqAt.int_int (A := A) (s := s) v t v t'
    rwa [beq_self_eq_true] at this
  | pair b v => exact h1.elim
  | item k v => exact h1.elim
theorem eq_bool (b : Bool) : EqAt A s (.bool b) (.bool b) true := EqAt.same _
theorem two_all {x1 x2 y1 y2 : Value} (h1 : EqAt A s x1 y1 true) (h2 : EqAt A s x2 y2 true) : ∀ j (q1 : j < #[x1, x2].size) (q2 : j < #[y1, y2].size), EqAt A s #[x1, x2][j] #[y1, y2][j] ((fun _ => true) j) := by
  intro j q1 q2
  match j, q1, q2 with
  | 0, _, _ => exact h1
  | 1, _, _ => exact h2
theorem ne_tup {T1 T2 : Addr} {x1 x2 y1 y2 : Value} (h1 : s.heap.get? T1 = some (tupO #[x1, x2])) (h2 : s.heap.get? T2 = some (tupO #[y1, y2])) (hu : A.units < cLine) (e1 : EqAt A.in1 s x1 y1 true) (e2 : EqAt A.in1 s x2 y2 true) :
    RcNeAt A s (.ref T1) (.ref T2) false := by
  have := RcNeAt.tuples (A := A) (e := fun _ => true) (isT h1) (isT h2) hu (two_all e1 e2)
  exact this
theorem eq_tup {T1 T2 : Addr} {x1 x2 y1 y2 : Value} (h1 : s.heap.get? T1 = some (tupO #[x1, x2])) (h2 : s.heap.get? T2 = some (tupO #[y1, y2])) (hu : A.units < cLine) (hne : T1 ≠ T2) (e1 : EqAt A.in1 s x1 y1 true) (e2 : EqAt A.in1 s x2 y2 true) :
    EqAt A s (.ref T1) (.ref T2) true := by
  have := RcAt.tuples (A := A) (e := fun _ => true) (isT h1) (isT h2) hu (two_all e1 e2)
  exact EqAt.of_refs hne this
theorem eq_rr {r : Res} {a1 a2 : Addr} {o1 o2 : Obj} (h1 : s.heap.get? a1 = some o1) (h2 : s.heap.get? a2 = some o2) (r1 : RR r o1) (r2 : RR r o2) (hu : A.units < cLine) (hne : a1 ≠ a2) : EqAt A s (.ref a1) (.ref a2) true := by
  cases r with
  | none => exact r1.elim
  | int v => exact r1.elim
  | pair b v =>
    obtain ⟨t, rfl⟩ := r1
    obtain ⟨t', rfl⟩ := r2
    refine eq_tup h1 h2 hu hne (EqAt.same _) ?_
    have := EqAt.int_int (A := A.in1) (s := s) v t v t'
    rwa [beq_self_eq_true] at this
  | item k v =>
    obtain ⟨t, t1, rfl⟩ := r1
    obtain ⟨t', t1', rfl⟩ := r2
    refine eq_tup h1 h2 hu hne ?_ ?_
    · have := EqAt.str_str (A := A.in1) (s := s) k t k t'
      rwa [beq_self_eq_true] at this
    · have := EqAt.int_int (A := A.in1) (s := s) v t1 v t1'
      rwa [beq_self_eq_true] at this
end
section
variable {w : World} {A : Around} {E : Value → Shared → Prop} {s : Shared} {h₀ : Heap} {L T1 T2 : Addr} {news : List (Addr × Obj)} {Q : Value → Shared → Prop} {b : Bool} {r : Res}
theorem ln_neF {v1 v2 : Value} (N : News h₀ L s.heap news) (m1 : (T1, tupO #[.bool b, v1]) ∈ news) (m2 : (T2, tupO #[.bool b, v2]) ∈ news) (h1 : RF r v1) (h2 : RF r v2) (hu : A.units < cLine) (h : Q (.bool false) s) :
    wpAny (model PP w) A (compareOp .NotEq (.ref T1) (.ref T2)) Q E s :=
  cmp_ofNotEq (ne_tup (N _ m1).1 (N _ m2).1 hu (EqAt.same _) (eq_rf h1 h2) _ _ _ _ h)
theorem ln_neR {a1 a2 : Addr} {o1 o2 : Obj} (N : News h₀ L s.heap news) (m1 : (T1, tupO #[.bool b, .ref a1]) ∈ news) (m2 : (T2, tupO #[.bool b, .ref a2]) ∈ news) (n1 : (a1, o1) ∈ news) (n2 : (a2, o2) ∈ news) (h1 : RR r o1) (h2 : RR r o2) (hne : a1 ≠ a2) (hu : A.units + 1 < cLine) (h : Q (.bool false) s) :
    wpAny (model PP w) A (compareOp .NotEq (.ref T1) (.ref T2)) Q E s :=
  cmp_ofNotEq (ne_tup (N _ m1).1 (N _ m2).1 (by omega) (EqAt.same _) (eq_rr (N _ n1).1 (N _ n2).1 h1 h2 hu hne) _ _ _ _ h)
end
end Mine
end
section
open PySem PySem.W PyProof.Rows PySem.Calls PySem.SeqAt
set_option maxRecDepth 100000
set_option maxHeartbeats 8000000
theorem Mine.walkResetS23 : True := by w_top off; trivial
namespace Mine
section
variable {w : World} {A : Around} {E : Value → Shared → Prop} {s : Shared} {h₀ : Heap} {L : Addr} {m : Str → Option Value} {news : List (Addr × Obj)} {d dx : Addr} {es : List DictEntry} {n : Nat} {c : Ents} {Q : Value → Shared → Prop}
theorem b_items {R : Value → Shared → Prop} (hN : NOk w s.heap d) (hds : (d == sysModules) = false) (h : R (.ref s.heap.objs.size) { s with heap := s.heap.push { cls := .type "dict_items", data := .fields #[.ref d] } }) :
    wpAny (model PP w) A (Builtin.«dict.items» ⟨[.ref d], []⟩) (fun fin s' => ∃ v, fin = .done (.ret v) ∧ R v s') E s := by
  unfold Builtin.«dict.items»
  refine wpAny_bind ?_
  unfold Builtin.Dict.noArgs
  refine wpAny_bind (hN _ _ _ _ _ _ _ rfl ?_)
  show wpAny _ _ (pure d) _ _ s
  refine wpAny_pure ?_
  show wpAny _ _ (Builtin.Dict.showsAll d >>= _) _ _ s
  unfold Builtin.Dict.showsAll
  rw [if_neg (by rw [hds]; exact Bool.false_ne_true)]
  refine wpAny_bind (wpAny_pure ?_)
  exact wpAny_bind (wpAny_newObj_type (wpAny_pure ⟨_, rfl, h⟩))
/-- due.items() -/
theorem kd_items (F : Fr h₀ L s.heap m) (N : News h₀ L s.heap news) (hp : (d, dictOf es n) ∈ news) (hds : (d == sysModules) = false)
    (h : ∀ (D : Addr) h', Fr h₀ L h' m → News h₀ L h' ((D, { cls := .type "dict_items", data := .fields #[.ref d] }) :: news) → (∀ q ∈ news, q.1 < D) → Q (.ref D) { s with heap := h' }) :
    wpAny (model PP w) A (call (.builtin "dict.items") [.ref d]) Q E s := by
  have ho := (N _ hp).1
  have hT : s.TypeIs (.ref d) "dict" := ⟨_, ho, rfl⟩
  refine wpAny_call_entry PySem.F.slot_dict_items hT PySem.F.entry_dict_items ?_ (PySem.F.args_dict_items_1 _)
  exact b_items (nok_due ho rfl) hds (h _ _ (F.push _) (News.push F N _) fun q hq => Heap.lt_size (N q hq).1)
theorem it_kind : builtinKind "dict.items" = some .method := by decide +kernel
theorem it_split : splitId "dict.items" = some ("dict", "items") := by decide +kernel
theorem it_sig : (Manifest.sig_dict.lookup "items").isSome = true := by decide +kernel
theorem sq_it_sig : Manifest.signature? "dict.items" = Manifest.sig_dict.lookup "items" := signature?_of (id := "dict.items") (n := ['s', 'm', 'e', 't', 'i']) (o := ['t', 'c', 'i', 'd']) (by kernel_rfl) PySem.F.owner_dict
theorem it_args (x : Addr) : Bind.checkArgs "dict.items" ((Manifest.sig_dict.lookup "items").get it_sig) ⟨[.ref x], []⟩ = pure () := by kernel_rfl
theorem it_plain : plainId "dict.items" = true := by decide +kernel
theorem it_find (w : World) : findIn (hd.heap_39 w.params) (.ref 163) "items" = some (some (.builtin "dict.items")) := by kernel_rfl
/-- told.items(), by its type's own method -/
theorem kt_items (F : Fr h₀ L s.heap m) (X₀ : (hd.heap_39 w.params).In h₀) (N : News h₀ L s.heap news) (hp : (d, cdObj dx es n) ∈ news) (hds : (d == sysModules) = false)
    (h : ∀ (D : Addr) h', Fr h₀ L h' m → News h₀ L h' ((D, { cls := .type "dict_items", data := .fields #[.ref d] }) :: news) → (∀ q ∈ news, q.1 < D) → Q (.ref D) { s with heap := h' }) :
    wpAny (model PP w) A (call (.builtin "dict.items") [.ref d]) Q E s := by
  obtain ⟨hh, g, dr, tk, os⟩ := s
  have ho := (N _ hp).1
  have X := X₀.keeps F.keep
  have hi := isInst_cd X ho (mro_dict w)
  refine wpAny_call (codeAny_call_builtin it_plain PySem.F.entry_dict_items ?_)
  simp only [checkBuiltinCall, it_kind, it_split]
  rw [sq_it_sig, ← Option.some_get it_sig]
  refine wpAny_bind (hi.at ?_)
  dsimp only
  rw [it_args]
  simp only [Bool.not_true, Bool.false_eq_true, if_false]
  refine wpAny_pure ?_
  have := b_items (w := w) (A := A.in1) (E := E) (R := Q) (nok_told X ho) hds (h _ _ (F.push _) (News.push F N _) fun q hq => Heap.lt_size (N q hq).1)
  refine wpAny_mono this (fun fin s' z => ?_) fun _ _ z => z
  obtain ⟨v, rfl, q⟩ := z
  exact q
end
end Mine
end
section
open PySem PySem.W PyProof.Rows PySem.Calls
set_option maxRecDepth 100000
set_option maxHeartbeats 8000000
theorem Mine.walkResetS24 : True := by w_top off; trivial
namespace Mine
theorem g_new {w : World} {base h₀ : Heap} {outer : List Env} {env : Env} {A : Around} {A₀ : Around} {L : Addr} {m mg mb : Str → Option Value} {s : Shared} {p : Program} {loose : List Str} {mean : ExcName → Option Value}
    {news : List (Addr × Obj)} {Q : Value → Shared → Prop} {E : Value → Shared → Prop}
    (hA0 : A.handled = none) (hA : A.frames = some (env :: outer)) (hcr : A.depth + 80 < recursionLimit) (hcu : A.units + 300 < cLine)
    (B : Below A₀ base outer h₀) (F : Fr h₀ L s.heap m) (X₀ : (hd.heap_39 w.params).In h₀) (N : News h₀ L s.heap news) (T : Top p loose mean mg mb h₀)
    (hf : env.frame = some L) (hk : env.scope.kind = .function)
    (hQ : ∀ h' tk x dx, Fr h₀ L h' m → News h₀ L h' ((x, cdObj dx [] 0) :: (dx, dictOf [] 0) :: news) → (x == sysModules) = false → dx < x → (dx == sysModules) = false → (∀ p ∈ news, p.1 < dx) → Q (.ref x) { s with heap := h', toks := tk }) :
    wpAny (model PP w) A (call (.ref 163) []) Q E s := by
  obtain ⟨hd', d, fr, gs, u⟩ := A
  dsimp only at hA0 hA hcr hcu
  subst hA0 hA
  exact c_new (A := A₀) hcr hcu B F X₀ N T hf hk hQ

theorem g_next {w : World} {A₀ : Around} {base h₀ : Heap} {outer : List Env} {env : Env} {A : Around} {L : Addr} {m mg mb : Str → Option Value} {s : Shared} {p : Program} {loose : List Str} {mean : ExcName → Option Value}
    {rest : List (Addr × Obj)} {Q : Value → Shared → Prop} {E : Value → Shared → Prop} {st sl : Addr} {i t many : Int} {ti tt tm : Tok} {e1 e2 : Nat} {vs : List Value} {ns : List Int}
    (hA0 : A.handled = none) (hA : A.frames = some (env :: outer)) (hcr : A.depth + 100 < recursionLimit) (hcu : A.units + 400 < cLine)
    (B : Below A₀ base outer h₀) (F : Fr h₀ L s.heap m) (X₀ : (hd.heap_39 w.params).In h₀) (N : News h₀ L s.heap ((st, W.listOf #[.ref sl, .int i ti, .int t tt] e1) :: (sl, W.listOf vs.toArray e2) :: rest)) (T : Top p loose mean mg mb h₀)
    (hf : env.frame = some L) (hk : env.scope.kind = .function) (hr : ∀ p ∈ ((sl, W.listOf vs.toArray e2) :: rest), p.1 ≠ st) (hI : IntsAre vs ns) (hlen : ns.length ≤ 40) (h0 : 0 ≤ i) (h1 : i ≤ ns.length) (hm : 0 < many) (hm2 : many ≤ 100)
    (hQ : ∀ h' tk i' t' ti' tt' e1' r tr, Fr h₀ L h' m → News h₀ L h' ((st, W.listOf #[.ref sl, .int i' ti', .int t' tt'] e1') :: (sl, W.listOf vs.toArray e2) :: rest) → 0 ≤ i' → i' ≤ ns.length → 0 ≤ r → r < many → Q (.int r tr) { s with heap := h', toks := tk }) :
    wpAny (model PP w) A (call (.ref 181) [.ref st, .int many tm]) Q E s := by
  obtain ⟨hd', d, fr, gs, u⟩ := A
  dsimp only at hA0 hA hcr hcu
  subst hA0 hA
  exact c_next hcr hcu B F X₀ N T hf hk hr hI hlen h0 h1 hm hm2 hQ

theorem g_keys {w : World} {A₀ : Around} {base h₀ : Heap} {outer : List Env} {env : Env} {A : Around} {L : Addr} {m mg mb : Str → Option Value} {s : Shared} {p : Program} {loose : List Str} {mean : ExcName → Option Value}
    {news : List (Addr × Obj)} {Q : Value → Shared → Prop} {E : Value → Shared → Prop}
    (hA0 : A.handled = none) (hA : A.frames = some (env :: outer)) (hcr : A.depth + 100 < recursionLimit) (hcu : A.units + 400 < cLine)
    (B : Below A₀ base outer h₀) (F : Fr h₀ L s.heap m) (X₀ : (hd.heap_39 w.params).In h₀) (N : News h₀ L s.heap news) (T : Top p loose mean mg mb h₀)
    (hf : env.frame = some L) (hk : env.scope.kind = .function)
    (hQ : ∀ h' tk l its, TenKeys its → Fr h₀ L h' m → News h₀ L h' ((l, W.listOf its 0) :: news) → (∀ q ∈ news, q.1 < l) → Q (.ref l) { s with heap := h', toks := tk }) :
    wpAny (model PP w) A (call (.ref 174) []) Q E s := by
  obtain ⟨hd', d, fr, gs, u⟩ := A
  dsimp only at hA0 hA hcr hcu
  subst hA0 hA
  exact c_keys hcr hcu B F X₀ N T hf hk hQ

theorem g_done {w : World} {A₀ : Around} {h₀ : Heap} {env : Env} {A : Around} {L : Addr} {m mg mb : Str → Option Value} {s : Shared} {p : Program} {loose : List Str} {mean : ExcName → Option Value}
    {told dx : Addr} {es : List DictEntry} {n : Nat} {c : Ents} {rest : List (Addr × Obj)} {Q : Value → Shared → Prop} {E : Value → Shared → Prop} {x ux : Str} {t : Tok} {kind v : Int} {tkd tv : Tok}
    (hA0 : A.handled = none) (hA : A.frames = some (env :: [])) (hcr : A.depth + 120 < recursionLimit) (hcu : A.units + 500 < cLine)
    (B : Below A₀ h₀ [] h₀) (F : Fr h₀ L s.heap m) (X₀ : (hd.heap_39 w.params).In h₀) (N : News h₀ L s.heap ((told, cdObj dx es n) :: (dx, dictOf [] 0) :: rest)) (T : Top p loose mean mg mb h₀)
    (hf : env.frame = some L) (hk : env.scope.kind = .function) (hr : ∀ p ∈ rest, p.1 ≠ told) (hdx : dx ≠ told) (hE : EK w es c) (hxs : (told == sysModules) = false) (hup : Txt.upper x = ux) (hul : PySem.Builtin.Str.tooLong (Txt.upper x).length = false) (hsz : c.length ≤ 1000) (hKE : mg (Str.ofString "KeyError") = none)
    (hF : ∀ h' tk es' n' c' T val r, deed kind c ux v = (some r, c') → RF r val → EK w es' c' → Fr h₀ L h' m → News h₀ L h' ((T, { cls := .type "tuple", data := .seq #[.bool true, val] }) :: (told, cdObj dx es' n') :: (dx, dictOf [] 0) :: rest) → Q (.ref T) { s with heap := h', toks := tk })
    (hR : ∀ h' tk es' n' c' T a o r, deed kind c ux v = (some r, c') → RR r o → EK w es' c' → Fr h₀ L h' m → News h₀ L h' ((T, { cls := .type "tuple", data := .seq #[.bool true, .ref a] }) :: (a, o) :: (told, cdObj dx es' n') :: (dx, dictOf [] 0) :: rest) → Q (.ref T) { s with heap := h', toks := tk })
    (hX : ∀ h' tk T, deed kind c ux v = (none, c) → Fr h₀ L h' m → News h₀ L h' ((T, { cls := .type "tuple", data := .seq #[.bool false, .none] }) :: (told, cdObj dx es n) :: (dx, dictOf [] 0) :: rest) → Q (.ref T) { s with heap := h', toks := tk }) :
    wpAny (model PP w) A (call (.ref 195) [.ref told, .int kind tkd, .str x t, .int v tv]) Q E s := by
  obtain ⟨hd', d, fr, gs, u⟩ := A
  dsimp only at hA0 hA hcr hcu
  subst hA0 hA
  exact c_done hcr hcu B F X₀ N T hf hk hr hdx hE hxs hup hul hsz hKE hF hR hX

theorem g_doneD {w : World} {A₀ : Around} {h₀ : Heap} {env : Env} {A : Around} {L : Addr} {m mg mb : Str → Option Value} {s : Shared} {p : Program} {loose : List Str} {mean : ExcName → Option Value}
    {told : Addr} {es : List DictEntry} {n : Nat} {c : Ents} {rest : List (Addr × Obj)} {Q : Value → Shared → Prop} {E : Value → Shared → Prop} {x : Str} {t : Tok} {kind v : Int} {tkd tv : Tok}
    (hA0 : A.handled = none) (hA : A.frames = some (env :: [])) (hcr : A.depth + 120 < recursionLimit) (hcu : A.units + 500 < cLine)
    (B : Below A₀ h₀ [] h₀) (F : Fr h₀ L s.heap m) (X₀ : (hd.heap_39 w.params).In h₀) (N : News h₀ L s.heap ((told, dictOf es n) :: rest)) (T : Top p loose mean mg mb h₀)
    (hf : env.frame = some L) (hk : env.scope.kind = .function) (hr : ∀ p ∈ rest, p.1 ≠ told) (hE : EK w es c) (hxs : (told == sysModules) = false)  (hsz : c.length ≤ 1000) (hKE : mg (Str.ofString "KeyError") = none)
    (hF : ∀ h' tk es' n' c' T val r, deed kind c x v = (some r, c') → RF r val → EK w es' c' → Fr h₀ L h' m → News h₀ L h' ((T, { cls := .type "tuple", data := .seq #[.bool true, val] }) :: (told, dictOf es' n') :: rest) → Q (.ref T) { s with heap := h', toks := tk })
    (hR : ∀ h' tk es' n' c' T a o r, deed kind c x v = (some r, c') → RR r o → EK w es' c' → Fr h₀ L h' m → News h₀ L h' ((T, { cls := .type "tuple", data := .seq #[.bool true, .ref a] }) :: (a, o) :: (told, dictOf es' n') :: rest) → Q (.ref T) { s with heap := h', toks := tk })
    (hX : ∀ h' tk T, deed kind c x v = (none, c) → Fr h₀ L h' m → News h₀ L h' ((T, { cls := .type "tuple", data := .seq #[.bool false, .none] }) :: (told, dictOf es n) :: rest) → Q (.ref T) { s with heap := h', toks := tk }) :
    wpAny (model PP w) A (call (.ref 195) [.ref told, .int kind tkd, .str x t, .int v tv]) Q E s := by
  obtain ⟨hd', d, fr, gs, u⟩ := A
  dsimp only at hA0 hA hcr hcu
  subst hA0 hA
  exact c_doneD hcr hcu B F X₀ N T hf hk hr hE hxs hsz hKE hF hR hX

end Mine
end
section
open PySem PySem.W PyProof.Rows PySem.Calls
set_option maxRecDepth 100000
set_option maxHeartbeats 8000000
theorem Mine.walkResetS26 : True := by w_top off; trivial
namespace Mine
/-- an object whose own data are these entries, of whatever class -/
def VD (h : Heap) (d : Addr) (es : Array DictEntry) (ep : Nat) : Prop := ∃ o, h.get? d = some o ∧ o.data = .dict es ep
theorem VD.at {h h' : Heap} {d es ep} (x : VD h d es ep) (k : ∀ o, h.get? d = some o → h'.get? d = some o) : VD h' d es ep := let ⟨o, a, b⟩ := x; ⟨o, k o a, b⟩
theorem ownsK : Builtin.Dict_items.ownsTuple "dict_keyiterator" = false := by decide
theorem ownsI : Builtin.Dict_items.ownsTuple "dict_itemiterator" = true := by decide
section
variable {w : World} {A : Around} {E : Value → Shared → Prop} {hp : Heap} {g : Array GenState} {dr : Drawn} {tk : Nat} {os : OsState} {it d : Addr} {es : Array DictEntry} {i ep : Nat}
abbrev NextK (w : World) (A : Around) (it : Addr) (Q : Option Value → Shared → Prop) (E : Value → Shared → Prop) (s : Shared) : Prop := wpAny (model PP w) A (pyNext (.ref it)) Q E s
abbrev kitO (d : Addr) (i n ep : Nat) : Obj := { cls := .type "dict_keyiterator", dict := none, data := .fields #[.ref d, .int i 0, .int n 0, .int ep 0], slots := #[] }
theorem nk_item {Q : Option Value → Shared → Prop} (hit : hp.get? it = some (kitO d i es.size ep)) (hm : VD hp d es ep) (hi : i < es.size)
    (q : ∀ h', h'.get? it = some (kitO d (i + 1) es.size ep) → Heap.SameBut it hp h' → Q (some es[i].key) ⟨h', g, dr, tk, os⟩) : NextK w A it Q E ⟨hp, g, dr, tk, os⟩ := by
  obtain ⟨od, hod, hdd⟩ := hm
  have ty : ∀ {h : Heap} {j : Nat}, h.get? it = some (kitO d j es.size ep) → Shared.TypeIs ⟨h, g, dr, tk, os⟩ (.ref it) "dict_keyiterator" := fun e => ⟨_, e, rfl⟩
  have nm : ∀ {A' : Around} {R : String → Shared → Prop} {E' : Value → Shared → Prop}, R "dict_keyiterator" ⟨hp, g, dr, tk, os⟩ → wpAny (model PP w) A' (typeNameOfWhole (.ref it)) R E' ⟨hp, g, dr, tk, os⟩ := fun r => wpAny_typeNameOfWhole_keyiter (ty hit) r
  refine wpAny_bind (wpAny_attempt (wpAny_callSpecial?_slot (name := Str.ofString "__next__") (ty hit) F.slot_dict_keyiterator_next
    (wpAny_call_entry F.slot_dict_keyiterator_next (ty hit) F.entry_dict_keyiterator_next ?_ (F.args_dict_keyiterator_next_1 _))))
  refine wpAny_bind (wpAny_pure (wpAny_bind (wpAny_bind (wpAny_bind (nm (wpAny_pure (wpAny_bind (wpAny_fieldsOf hit rfl ?_))))))))
  simp only [ownsK, Bool.false_eq_true, if_false]
  show wpAny _ _ (if (Value.ref d == Value.none) = true then _ else _) _ _ _
  rw [if_neg (show ¬ ((Value.ref d == Value.none) = true) from Bool.false_ne_true)]
  refine wpAny_bind (wpAny_pure (wpAny_bind (wpAny_dictEntries hod hdd ?_)))
  rw [if_neg (by simp)]
  refine wpAny_bind (wpAny_pure (wpAny_bind (wpAny_dictEpoch hod hdd ?_)))
  rw [if_neg (by simp)]
  refine wpAny_pure ?_
  simp only [show ¬ ((i : Int) < 0) from by omega, if_false, Int.toNat_natCast, Array.getElem?_eq_getElem hi]
  refine wpAny_bind (wpAny_bind (nm (wpAny_pure (wpAny_bind (wpAny_isOneOf_keyiter (ty hit) ?_)))))
  show wpAny _ _ (setField (.ref it) 1 (rawInt ((i : Int) + 1)) >>= _) _ _ _
  refine wpAny_bind (wpAny_setField_rec hit (by simp) fun h₁ he₁ hs₁ => ?_)
  have e1 : h₁.get? it = some (kitO d (i + 1) es.size ep) := by
    refine he₁.trans ?_
    show some _ = some _
    have e : ((i + 1 : Nat) : Int) = (i : Int) + 1 := by omega
    simp [rawInt, e]
  refine wpAny_bind (wpAny_holding (wpAny_bind (wpAny_isOneOf_keyiter (ty e1) ?_)))
  exact wpAny_pure (wpAny_pure ⟨_, rfl, wpAny_pure (q _ e1 hs₁)⟩)
theorem nk_end {Q : Option Value → Shared → Prop} (hh : A.handled = none) (hit : hp.get? it = some (kitO d es.size es.size ep)) (hm : VD hp d es ep)
    (q : ∀ h', (∀ b o, b ≠ it → hp.get? b = some o → h'.get? b = some o) → Q none ⟨h', g, dr, tk, os⟩) : NextK w A it Q E ⟨hp, g, dr, tk, os⟩ := by
  obtain ⟨od, hod, hdd⟩ := hm
  have ty : Shared.TypeIs ⟨hp, g, dr, tk, os⟩ (.ref it) "dict_keyiterator" := ⟨_, hit, rfl⟩
  have nm : ∀ {A' : Around} {R : String → Shared → Prop} {E' : Value → Shared → Prop}, R "dict_keyiterator" ⟨hp, g, dr, tk, os⟩ → wpAny (model PP w) A' (typeNameOfWhole (.ref it)) R E' ⟨hp, g, dr, tk, os⟩ := fun r => wpAny_typeNameOfWhole_keyiter ty r
  refine wpAny_bind (wpAny_attempt (wpAny_callSpecial?_slot (name := Str.ofString "__next__") ty F.slot_dict_keyiterator_next
    (wpAny_call_entry F.slot_dict_keyiterator_next ty F.entry_dict_keyiterator_next ?_ (F.args_dict_keyiterator_next_1 _))))
  refine wpAny_bind (wpAny_pure (wpAny_bind (wpAny_bind (wpAny_bind (nm (wpAny_pure (wpAny_bind (wpAny_fieldsOf hit rfl ?_))))))))
  simp only [ownsK, Bool.false_eq_true, if_false]
  show wpAny _ _ (if (Value.ref d == Value.none) = true then _ else _) _ _ _
  rw [if_neg (show ¬ ((Value.ref d == Value.none) = true) from Bool.false_ne_true)]
  refine wpAny_bind (wpAny_pure (wpAny_bind (wpAny_dictEntries hod hdd ?_)))
  rw [if_neg (by simp)]
  refine wpAny_bind (wpAny_pure (wpAny_bind (wpAny_dictEpoch hod hdd ?_)))
  rw [if_neg (by simp)]
  refine wpAny_pure ?_
  simp only [show ¬ ((es.size : Int) < 0) from by omega, if_false, Int.toNat_natCast, Array.getElem?_eq_none (Nat.le_refl es.size)]
  refine wpAny_bind (wpAny_bind (nm (wpAny_pure ?_)))
  show wpAny _ _ (setField (.ref it) 0 .none >>= _) _ _ _
  refine wpAny_bind (wpAny_setField_rec hit (by simp) fun h₁ he₁ hs₁ => ?_)
  show wpAny _ _ (newExc (.type "StopIteration") [] >>= _) _ _ _
  refine wpAny_bind ?_
  simp only [newExc, newTuple]
  refine wpAny_bind (wpAny_newObj_type ?_ (by size_fits))
  refine wpAny_bind (m := firstArgMember _ _) (wpAny_of_eq (a := Value.none) (by first | rfl | (simp only [firstArgMember]; rfl)) ?_)
  refine wpAny_newObj_type ?_ (by size_fits)
  simp only [raiseNew]
  refine wpAny_bind (wpAny_handled ?_)
  rw [show A.in1.handled = none from hh]
  refine wpAny_bind (wpAny_pure (wpAny_throw ?_))
  refine wpAny_bind (wpAny_isInstance (T := "StopIteration") (b := true) ⟨_, Heap.get?_push_size _ rfl, rfl⟩ isSubtype_stop ?_)
  exact wpAny_pure (q _ ((hs₁.extBut.push _).push _))

abbrev itO (d : Addr) (x : Value) (f : Bool) (i n ep : Nat) (k v : Value) : Obj := { cls := .type "dict_itemiterator", dict := none, data := .fields #[x, .bool f, .ref d, .int i 0, .int n 0, .int ep 0, k, v], slots := #[] }
/-- an items iterator behind i turns: the pair it keeps is none at first, then one that still lives -/
def ItS (h : Heap) (it d : Addr) (i n ep : Nat) : Prop := ∃ x f k v, h.get? it = some (itO d x f i n ep k v) ∧ ((x = .none ∧ f = false) ∨ ∃ (a : Addr) (o : Obj), x = rawInt a ∧ a ≠ it ∧ h.get? a = some o)
theorem ItS.keep {h h' : Heap} {n : Nat} (x : ItS h it d i n ep) (k : ∀ b o, h.get? b = some o → h'.get? b = some o) : ItS h' it d i n ep := by
  obtain ⟨x, f, y, z, a, b⟩ := x
  refine ⟨x, f, y, z, k _ _ a, ?_⟩
  rcases b with b | ⟨a', o, e1, e2, e3⟩
  · exact .inl b
  · exact .inr ⟨a', o, e1, e2, k _ _ e3⟩
theorem ni_item {Q : Option Value → Shared → Prop} (hit : ItS hp it d i es.size ep) (hm : VD hp d es ep) (hi : i < es.size)
    (q : ∀ T h', T = hp.objs.size → ItS h' it d (i + 1) es.size ep → h'.get? T = some (tupO #[es[i].key, es[i].val]) → (∀ b o, b ≠ it → hp.get? b = some o → h'.get? b = some o) → Q (some (.ref T)) ⟨h', g, dr, tk, os⟩) : NextK w A it Q E ⟨hp, g, dr, tk, os⟩ := by
  obtain ⟨x, f, ok, ov, hit, hx⟩ := hit
  obtain ⟨od, hod, hdd⟩ := hm
  have ty : ∀ {h : Heap} {o : Obj}, h.get? it = some o → o.cls = .type "dict_itemiterator" → Shared.TypeIs ⟨h, g, dr, tk, os⟩ (.ref it) "dict_itemiterator" := fun e c => ⟨_, e, c⟩
  have nm : ∀ {A' : Around} {R : String → Shared → Prop} {E' : Value → Shared → Prop}, R "dict_itemiterator" ⟨hp, g, dr, tk, os⟩ → wpAny (model PP w) A' (typeNameOfWhole (.ref it)) R E' ⟨hp, g, dr, tk, os⟩ := fun r => wpAny_typeNameOfWhole_itemiter (ty hit rfl) r
  refine wpAny_bind (wpAny_attempt (wpAny_callSpecial?_slot (name := Str.ofString "__next__") (ty hit rfl) F.slot_dict_itemiterator_next
    (wpAny_call_entry F.slot_dict_itemiterator_next (ty hit rfl) F.entry_dict_itemiterator_next ?_ (F.args_dict_itemiterator_next_1 _))))
  refine wpAny_bind (wpAny_pure (wpAny_bind (wpAny_bind (wpAny_bind (nm (wpAny_pure (wpAny_bind (wpAny_fieldsOf hit rfl ?_))))))))
  simp only [ownsI, if_true]
  show wpAny _ _ (if (Value.ref d == Value.none) = true then _ else _) _ _ _
  rw [if_neg (show ¬ ((Value.ref d == Value.none) = true) from Bool.false_ne_true)]
  refine wpAny_bind (wpAny_pure (wpAny_bind (wpAny_dictEntries hod hdd ?_)))
  rw [if_neg (by simp)]
  refine wpAny_bind (wpAny_pure (wpAny_bind (wpAny_dictEpoch hod hdd ?_)))
  rw [if_neg (by simp)]
  refine wpAny_pure ?_
  simp only [show ¬ ((i : Int) < 0) from by omega, if_false, Int.toNat_natCast, Array.getElem?_eq_getElem hi]
  refine wpAny_bind (wpAny_bind (nm (wpAny_pure (wpAny_bind (wpAny_isOneOf_itemiter (ty hit rfl) ?_)))))
  show wpAny _ _ (setField (.ref it) 3 (rawInt ((i : Int) + 1)) >>= _) _ _ _
  have hil : it < hp.objs.size := Heap.lt_size hit
  refine wpAny_bind (wpAny_setField_rec hit (by simp) fun h₁ he₁ hs₁ => ?_)
  have e1 : h₁.get? it = some (itO d x f (i + 1) es.size ep ok ov) := by
    refine he₁.trans ?_
    show some _ = some _
    have e : ((i + 1 : Nat) : Int) = (i : Int) + 1 := by omega
    simp [rawInt, e]
  clear he₁
  refine wpAny_bind (wpAny_holding (wpAny_bind (wpAny_isOneOf_itemiter (ty e1 rfl) (wpAny_bind (wpAny_isOneOf_itemiter (ty e1 rfl) ?_)))))
  show wpAny _ _ (Builtin.Dict_items.pairFromOwner (.ref it) 6 es[i].key es[i].val) _ _ ⟨h₁, g, dr, tk, os⟩
  unfold Builtin.Dict_items.pairFromOwner
  refine wpAny_bind (wpAny_newTuple ?_)
  have z1 : h₁.objs.size = hp.objs.size := hs₁.1
  have keep2 : ∀ b o, b ≠ it → hp.get? b = some o → (h₁.push (tupO #[es[i].key, es[i].val])).get? b = some o := fun b o hb e => Heap.get?_push_of_some _ (hs₁.extBut b o hb e)
  have e2 : (h₁.push (tupO #[es[i].key, es[i].val])).get? it = some (itO d x f (i + 1) es.size ep ok ov) := Heap.get?_push_of_some _ e1
  have t2 : (h₁.push (tupO #[es[i].key, es[i].val])).get? hp.objs.size = some (tupO #[es[i].key, es[i].val]) := by rw [← z1]; exact Heap.get?_push_size _ rfl
  show wpAny _ _ (Builtin.Dict_items.ownedTupleIsFree (.ref it) >>= _) _ _ ⟨h₁.push (tupO #[es[i].key, es[i].val]), g, dr, tk, os⟩
  rw [show h₁.objs.size = hp.objs.size from z1]
  generalize h₁.push (tupO #[es[i].key, es[i].val]) = h₂ at keep2 e2 t2 ⊢
  have fin : ∀ (h₃ : Heap) (x' : Value) (f' : Bool) (k' v' : Value), h₃.get? it = some (itO d x' f' (i + 1) es.size ep k' v') → (∃ (a : Addr) (o : Obj), x' = rawInt a ∧ a ≠ it ∧ h₂.get? a = some o) → Heap.ExtBut it h₂ h₃ → Q (some (.ref hp.objs.size)) ⟨h₃, g, dr, tk, os⟩ := fun h₃ x' f' k' v' e3 ⟨a, o, ea, an, ha⟩ hs =>
    q _ h₃ rfl ⟨x', f', k', v', e3, .inr ⟨a, o, ea, an, hs a o an ha⟩⟩ (hs _ _ (Nat.ne_of_gt hil) t2) fun b o hb e => hs b o hb (keep2 b o hb e)
  refine wpAny_bind ?_
  unfold Builtin.Dict_items.ownedTupleIsFree
  refine wpAny_bind (wpAny_field e2 rfl (x := x) rfl ?_)
  rcases hx with ⟨rfl, rfl⟩ | ⟨a, oa, rfl, han, ha⟩
  · refine wpAny_pure ?_
    simp only [if_true]
    refine wpAny_bind (wpAny_field e2 rfl (x := ok) rfl (wpAny_bind (wpAny_field e2 rfl (x := ov) rfl ?_)))
    refine wpAny_bind (wpAny_setField_rec e2 (by simp) fun h₃ he₃ hs₃ => ?_)
    replace he₃ : h₃.get? it = some (itO d .none false (i + 1) es.size ep es[i].key ov) := he₃
    refine wpAny_bind (wpAny_setField_rec he₃ (by simp) fun h₄ he₄ hs₄ => ?_)
    replace he₄ : h₄.get? it = some (itO d .none false (i + 1) es.size ep es[i].key es[i].val) := he₄
    refine wpAny_bind (wpAny_setField_rec he₄ (by simp) fun h₅ he₅ hs₅ => ?_)
    replace he₅ : h₅.get? it = some (itO d (rawInt hp.objs.size) false (i + 1) es.size ep es[i].key es[i].val) := he₅
    refine wpAny_bind (wpAny_setField_rec he₅ (by simp) fun h₆ he₆ hs₆ => ?_)
    replace he₆ : h₆.get? it = some (itO d (rawInt hp.objs.size) false (i + 1) es.size ep es[i].key es[i].val) := he₆
    refine wpAny_bind (wpAny_letGo (wpAny_pure (wpAny_pure ⟨_, rfl, wpAny_pure ?_⟩)))
    exact fin h₆ _ _ _ _ he₆ ⟨_, _, rfl, Nat.ne_of_gt hil, t2⟩ fun b o hb e => hs₆.extBut b o hb (hs₅.extBut b o hb (hs₄.extBut b o hb (hs₃.extBut b o hb e)))
  · have ha2 := keep2 a oa han ha
    show wpAny _ _ (loadIfAlive ((a : Int).toNat) >>= _) _ _ _
    rw [Int.toNat_natCast]
    refine wpAny_bind (kdx_alive ha2 ?_)
    simp only [Option.isNone_some, Bool.false_eq_true, if_false]
    refine wpAny_bind (wpAny_field e2 rfl (x := .bool f) rfl ?_)
    cases f with
    | true =>
      rw [if_neg (show ¬ ((Value.bool true != Value.bool true) = true) from Bool.false_ne_true)]
      refine wpAny_pure ?_
      simp only [Bool.false_eq_true, if_false]
      exact wpAny_pure (wpAny_pure ⟨_, rfl, wpAny_pure (fin h₂ _ _ _ _ e2 ⟨_, _, rfl, han, ha2⟩ fun b o _ e => e)⟩)
    | false =>
      rw [if_pos (show (Value.bool false != Value.bool true) = true from rfl)]
      refine wpAny_bind (wpAny_setField_rec e2 (by simp) fun h₃ he₃ hs₃ => ?_)
      replace he₃ : h₃.get? it = some (itO d (rawInt a) true (i + 1) es.size ep ok ov) := he₃
      refine wpAny_pure ?_
      simp only [Bool.false_eq_true, if_false]
      exact wpAny_pure (wpAny_pure ⟨_, rfl, wpAny_pure (fin h₃ _ _ _ _ he₃ ⟨_, _, rfl, han, ha2⟩ hs₃.extBut)⟩)
theorem ni_end {Q : Option Value → Shared → Prop} (hh : A.handled = none) (hit : ItS hp it d es.size es.size ep) (hm : VD hp d es ep)
    (q : ∀ h', (∀ b o, b ≠ it → hp.get? b = some o → h'.get? b = some o) → Q none ⟨h', g, dr, tk, os⟩) : NextK w A it Q E ⟨hp, g, dr, tk, os⟩ := by
  obtain ⟨x, f, ok, ov, hit, -⟩ := hit
  obtain ⟨od, hod, hdd⟩ := hm
  have ty : Shared.TypeIs ⟨hp, g, dr, tk, os⟩ (.ref it) "dict_itemiterator" := ⟨_, hit, rfl⟩
  have nm : ∀ {A' : Around} {R : String → Shared → Prop} {E' : Value → Shared → Prop}, R "dict_itemiterator" ⟨hp, g, dr, tk, os⟩ → wpAny (model PP w) A' (typeNameOfWhole (.ref it)) R E' ⟨hp, g, dr, tk, os⟩ := fun r => wpAny_typeNameOfWhole_itemiter ty r
  refine wpAny_bind (wpAny_attempt (wpAny_callSpecial?_slot (name := Str.ofString "__next__") ty F.slot_dict_itemiterator_next
    (wpAny_call_entry F.slot_dict_itemiterator_next ty F.entry_dict_itemiterator_next ?_ (F.args_dict_itemiterator_next_1 _))))
  refine wpAny_bind (wpAny_pure (wpAny_bind (wpAny_bind (wpAny_bind (nm (wpAny_pure (wpAny_bind (wpAny_fieldsOf hit rfl ?_))))))))
  simp only [ownsI, if_true]
  show wpAny _ _ (if (Value.ref d == Value.none) = true then _ else _) _ _ _
  rw [if_neg (show ¬ ((Value.ref d == Value.none) = true) from Bool.false_ne_true)]
  refine wpAny_bind (wpAny_pure (wpAny_bind (wpAny_dictEntries hod hdd ?_)))
  rw [if_neg (by simp)]
  refine wpAny_bind (wpAny_pure (wpAny_bind (wpAny_dictEpoch hod hdd ?_)))
  rw [if_neg (by simp)]
  refine wpAny_pure ?_
  simp only [show ¬ ((es.size : Int) < 0) from by omega, if_false, Int.toNat_natCast, Array.getElem?_eq_none (Nat.le_refl es.size)]
  refine wpAny_bind (wpAny_bind (nm (wpAny_pure ?_)))
  show wpAny _ _ (setField (.ref it) 2 .none >>= _) _ _ _
  refine wpAny_bind (wpAny_setField_rec hit (by simp) fun h₁ he₁ hs₁ => ?_)
  show wpAny _ _ (newExc (.type "StopIteration") [] >>= _) _ _ _
  refine wpAny_bind ?_
  simp only [newExc, newTuple]
  refine wpAny_bind (wpAny_newObj_type ?_ (by size_fits))
  refine wpAny_bind (m := firstArgMember _ _) (wpAny_of_eq (a := Value.none) (by first | rfl | (simp only [firstArgMember]; rfl)) ?_)
  refine wpAny_newObj_type ?_ (by size_fits)
  simp only [raiseNew]
  refine wpAny_bind (wpAny_handled ?_)
  rw [show A.in1.handled = none from hh]
  refine wpAny_bind (wpAny_pure (wpAny_throw ?_))
  refine wpAny_bind (wpAny_isInstance (T := "StopIteration") (b := true) ⟨_, Heap.get?_push_size _ rfl, rfl⟩ isSubtype_stop ?_)
  exact wpAny_pure (q _ ((hs₁.extBut.push _).push _))
end
end Mine
end
section
open PySem PySem.W PyProof.Rows PySem.Calls
set_option maxRecDepth 100000
set_option maxHeartbeats 8000000
theorem Mine.walkResetS27 : True := by w_top off; trivial
namespace Mine
theorem of_attempt {α : Type} {M : Model} {A : Around} {t : Sem α} {Q : Except Value α → Shared → Prop} {E : Value → Shared → Prop} {s : Shared} (h : wpAny M A t.attempt Q E s) : wpAny M A t (fun a => Q (.ok a)) (fun e => Q (.error e)) s :=
  fun Γ p hΓ => by have := h Γ p hΓ; rw [Sem.wp_attempt] at this; exact this
section
def MissQ (P : Except Value Value → Shared → Prop) (g : Array GenState) (dr : Drawn) (os : OsState) (h : Heap) : Prop := ∀ e o h' t', (∀ b o, h.get? b = some o → h'.get? b = some o) → h'.get? e = some o → o.cls = .type "AttributeError" → P (.error (.ref e)) ⟨h', g, dr, t', os⟩
theorem miss_of {P : Except Value Value → Shared → Prop} {g : Array GenState} {dr : Drawn} {os : OsState} {h h' : Heap} {t : Nat} {l : List (Addr × Obj)} {e : Addr} {d : Data} (z : MissQ P g dr os h) (D : W.X.Mem h h' [] ((e, { cls := .type "AttributeError", data := d }) :: l)) : P (.error (.ref e)) ⟨h', g, dr, t, os⟩ :=
  z e _ h' t (fun b o e => D.keep _ _ e (by simp [W.X.away])) (D.nw _ (.head _)).1 rfl
local macro_rules | `(tactic| x_close) => `(tactic| exact miss_of (by assumption) (by assumption))
theorem miss_keys {w : World} {A : Around} {h : Heap} {g : Array GenState} {dr : Drawn} {t tk : Nat} {os : OsState} {Q : Except Value Value → Shared → Prop} {E : Value → Shared → Prop} {d vw : Addr} (X : (hd.heap_39 w.params).In h)
   (hv : h.get? vw = some { cls := .type "dict_items", dict := none, data := .fields #[.ref d], slots := #[] }) (z : MissQ Q g dr os h) (hA : A.handled = none) :
   wpAny (model PP w) A (call (.builtin "object.__getattribute__") [.ref vw, .str (Str.ofString "keys") tk]).attempt Q E ⟨h, g, dr, t, os⟩ := by
  obtain ⟨hd', dd, fr, gs, uu⟩ := A
  dsimp only at hA
  subst hA
  x_run
end
theorem no_keys {w : World} {A : Around} {h : Heap} {g : Array GenState} {dr : Drawn} {t : Nat} {os : OsState} {Q : Option Value → Shared → Prop} {E : Value → Shared → Prop} {d vw : Addr} (X : (hd.heap_39 w.params).In h) (hA : A.handled = none)
   (hv : h.get? vw = some { cls := .type "dict_items", dict := none, data := .fields #[.ref d], slots := #[] }) (z : ∀ h' t', (∀ b o, h.get? b = some o → h'.get? b = some o) → Q none ⟨h', g, dr, t', os⟩) :
   wpAny (model PP w) A (getAttr? (.ref vw) (Str.ofString "keys")) Q E ⟨h, g, dr, t, os⟩ := by
  have hT : ∀ t, (⟨h, g, dr, t, os⟩ : Shared).TypeIs (.ref vw) "dict_items" := fun _ => ⟨_, hv, rfl⟩
  unfold getAttr? getAttrBy? getAttrBy
  refine wpAny_bind (wpAny_mkText (wpAny_bind (wpAny_attempt (wpAny_holding (wpAny_bind (wpAny_typeOf (hT _) (wpAny_bind (wpAny_of_eq F.slot_dict_items_getattribute.lookup ?_))))))))
  unfold getAttrByItsOwn hookBefore callGetattribute boundAndCalled
  refine wpAny_bind (wpAny_of_eq (show (if onTheHeap (.type "dict_items") then typeLookup (.type "dict_items") "__getattr__" else pure none) = pure none from rfl) ?_)
  refine wpAny_bind (wpAny_attempt (wpAny_holding ?_))
  show wpAny _ _ (bindSpecial (.builtin "object.__getattribute__") (.ref vw) >>= _) _ _ _
  refine wpAny_bind (wpAny_of_eq (F.slot_dict_items_getattribute.bind _) ?_)
  refine wpAny_mono (of_attempt (miss_keys (h := h) (tk := t) (E := fun _ _ => False) (Q := fun r s' => ∃ e o h' t', r = .error (.ref e) ∧ s' = ⟨h', g, dr, t', os⟩ ∧ (∀ b o, h.get? b = some o → h'.get? b = some o) ∧ h'.get? e = some o ∧ o.cls = .type "AttributeError") X hv (fun e o h' t' k he hc => ⟨e, o, h', t', rfl, rfl, k, he, hc⟩) hA)) (fun a s' ⟨_, _, _, _, q, _⟩ => nomatch q) ?_
  rintro _ _ ⟨e, o, h', t', q, rfl, k, he, hc⟩
  obtain rfl := Except.error.inj q
  have hI : ∀ {A' : Around} {R : Bool → Shared → Prop} {E' : Value → Shared → Prop}, R true ⟨h', g, dr, t', os⟩ → wpAny (model PP w) A' (isInstance (.ref e) (.type "AttributeError")) R E' ⟨h', g, dr, t', os⟩ := fun r => wpAny_isInstance (T := "AttributeError") (b := true) ⟨_, he, hc⟩ (by rw [isSubtype_type]; kernel_rfl) r
  show wpAny _ _ (getattributeRaised (.ref vw) _ (.type "dict_items") (.ref e) none false false) _ _ _
  unfold getattributeRaised
  refine wpAny_bind (hI ?_)
  rw [if_pos rfl]
  unfold hookBehind
  refine wpAny_bind (wpAny_of_eq (show (if onTheHeap (.type "dict_items") then pure none else typeLookup (.type "dict_items") "__getattr__") = pure none from by rw [if_neg (by decide), typeLookup_type, builtinLookup_eq_fast]; kernel_rfl) ?_)
  show wpAny _ _ (attributeErrorLeaves _ _ (.ref e) false false) _ _ _
  unfold attributeErrorLeaves
  dsimp only
  rw [if_pos (by rfl)]
  refine wpAny_bind (wpAny_throw ?_)
  show wpAny _ _ (isInstance (.ref e) (.type "AttributeError") >>= _) _ _ _
  refine wpAny_bind (hI ?_)
  rw [if_pos rfl]
  exact wpAny_pure (z h' t' k)

theorem en_loop : entryFor table "dict.update.loop" = some Builtin.«dict.update.loop» := entryFor_of_tree (by kernel_rfl)
theorem pl_loop : plainId "dict.update.loop" = true := by decide +kernel
theorem ix_take {c : Ents} {i : Nat} {p : Str × Int} (hn : (c.map (·.1)).Nodup) (hp : c[i]? = some p) : ix (c.take i) p.1 = none := by
  unfold ix
  rw [List.findIdx?_eq_none_iff]
  intro q hq
  simp only [decide_eq_false_iff_not]
  intro e
  obtain ⟨j, hj, rfl⟩ := List.mem_iff_getElem.mp hq
  simp only [List.length_take] at hj
  have hil : i < c.length := by
    rcases Nat.lt_or_ge i c.length with q | q
    · exact q
    · rw [List.getElem?_eq_none q] at hp; cases hp
  have e2 : c[i] = p := by rw [List.getElem?_eq_getElem hil] at hp; exact Option.some.inj hp
  have e1 : (c.map (·.1))[j]'(by rw [List.length_map]; omega) = (c.map (·.1))[i]'(by rw [List.length_map]; omega) := by
    rw [List.getElem_map, List.getElem_map, e2, ← e]
    simp
  exact List.pairwise_iff_getElem.mp hn j i _ _ (by omega) e1
theorem take_put {c : Ents} {i : Nat} {p : Str × Int} (hn : (c.map (·.1)).Nodup) (hp : c[i]? = some p) : cput (c.take i) p.1 p.2 = c.take (i + 1) := by
  unfold cput
  rw [ix_take hn hp, List.take_add_one, hp]
  rfl
section
variable {w : World} {A : Around} {hp : Heap} {g : Array GenState} {dr : Drawn} {tk : Nat} {os : OsState} {it d vw D : Addr} {es : List DictEntry} {n ep : Nat} {c : Ents}
theorem upd_loop {R : Result → Shared → Prop} {base : Heap} (hh : A.handled = none) (hE : EK w es c) (hn : (c.map (·.1)).Nodup) (hsz : c.length ≤ 1000) (hDit : D ≠ it) (hDd : D ≠ d) (hdit : d ≠ it)
    (hR : ∀ h' tk' es' n', (∀ b o, b ≠ D → b ≠ it → base.get? b = some o → h'.get? b = some o) → h'.get? D = some (dictOf es' n') → EK w es' c → R (.ok (.ret .none)) ⟨h', g, dr, tk', os⟩) :
    ∀ (k i : Nat) (h : Heap) (tk : Nat) (es' : List DictEntry) (n' : Nat) (j : Int) (tj : Tok), es.length - i = k → i ≤ es.length → ItS h it d i es.length ep → VD h d es.toArray ep → (∀ b o, b ≠ D → b ≠ it → base.get? b = some o → h.get? b = some o) →
      h.get? D = some (dictOf es' n') → EK w es' (c.take i) →
      codeAny (model PP w) A (.builtin "dict.update.loop" ⟨[.ref D, .ref it, .int j tj, .none], []⟩) R ⟨h, g, dr, tk, os⟩ := by
  intro k
  induction k with
  | zero =>
    intro i h tk es' n' j tj hk hi hit hd hkeep hD hE'
    obtain rfl : i = es.length := by omega
    refine codeAny_builtin en_loop ?_
    rw [Around.under_plainId pl_loop _]
    show wpAny _ A.in1 (pyNext (.ref it) >>= _) _ _ _
    refine wpAny_bind (ni_end (es := es.toArray) hh (by simpa using hit) hd fun h' k' => ?_)
    show wpAny _ _ (Builtin.Dict.addKeywords D [] >>= _) _ _ _
    refine wpAny_bind (wpAny_pure (wpAny_pure (hR h' tk es' n' (fun b o h1 h2 e => k' b o h2 (hkeep b o h1 h2 e)) (k' D _ hDit hD) ?_)))
    rw [hE.length, List.take_length] at hE'
    exact hE'
  | succ k ih =>
    intro i h tk es' n' j tj hk hi hit hd hkeep hD hE'
    have hlt : i < es.length := by omega
    have hlt' : i < es.toArray.size := by simpa using hlt
    obtain ⟨p, hp⟩ : ∃ p, c[i]? = some p := ⟨c[i]'(by rw [← hE.length]; exact hlt), List.getElem?_eq_getElem _⟩
    obtain ⟨e, he, hek⟩ := hE.at hp
    have ee : es.toArray[i] = e := by
      rw [List.getElem?_eq_getElem hlt] at he
      simpa using Option.some.inj he
    obtain ⟨⟨t1, k1⟩, hh1, t2, k2⟩ := hek
    refine codeAny_builtin en_loop ?_
    rw [Around.under_plainId pl_loop _]
    show wpAny _ A.in1 (pyNext (.ref it) >>= _) _ _ _
    refine wpAny_bind (ni_item (es := es.toArray) (i := i) (by simpa using hit) hd hlt' fun T h' hT hit' hTT k' => ?_)
    rw [ee, k1, k2] at hTT
    have hD' := k' D _ hDit hD
    show wpAny _ _ (holding [.ref T] _ >>= _) _ _ _
    have tyT : ∀ {A' : Around} {R : Value → Shared → Prop} {E' : Value → Shared → Prop}, R (.type "tuple") ⟨h', g, dr, tk, os⟩ → wpAny (model PP w) A' (typeOf (.ref T)) R E' ⟨h', g, dr, tk, os⟩ := fun r => wpAny_typeOf ⟨_, hTT, rfl⟩ r
    refine wpAny_bind (wpAny_holding (wpAny_bind (wpAny_tryCatch ?_)))
    unfold Builtin.Dict.pairItems
    refine wpAny_bind (tyT ?_)
    simp only [show (Value.type "tuple" == Value.type "list" || Value.type "tuple" == Value.type "tuple") = true from by decide, if_true]
    refine wpAny_bind (wpAny_seqItems hTT rfl (wpAny_pure ?_))
    show wpAny _ _ (holding [.str p.1 t1, .int p.2 t2] (dictSet D (.str p.1 t1) (.int p.2 t2))) _ _ _
    refine wpAny_holding (d_set (T := .type "dict") (dd := none) (es := es') (n := n') (c := c.take i) (s := ⟨h', g, dr, tk, os⟩) hD' hE' (by rw [List.length_take]; omega) fun h2 es2 n2 hD2 hE2 hs2 => ?_)
    rw [take_put hn hp] at hE2
    refine wpAny_pure ⟨plainId_quiet pl_loop _, ih (i + 1) h2 _ es2 n2 _ _ (by omega) (by omega) ?_ ?_ ?_ hD2 hE2⟩
    · have hit2 : ItS h' it d (i + 1) es.length ep := by simpa using hit'
      obtain ⟨x, f, y, z, a, b⟩ := hit2
      refine ⟨x, f, y, z, hs2.extBut _ _ hDit.symm a, ?_⟩
      rcases b with b | ⟨a', o, e1, e2, e3⟩
      · exact .inl b
      · by_cases q : a' = D
        · subst q; exact .inr ⟨a', _, e1, e2, hD2⟩
        · exact .inr ⟨a', o, e1, e2, hs2.extBut _ _ q e3⟩
    · exact (hd.at fun o e => k' d o hdit e).at fun o e => hs2.extBut d o hDd.symm e
    · exact fun b o h1 h2' e => hs2.extBut b o h1 (k' b o h2' (hkeep b o h1 h2' e))
abbrev viewO (T : String) (d : Addr) : Obj := { cls := .type T, dict := none, data := .fields #[.ref d], slots := #[] }
theorem iter_items {Q : Value → Shared → Prop} {E : Value → Shared → Prop} {ea : Array DictEntry} (hv : hp.get? vw = some (viewO "dict_items" d)) (hm : VD hp d ea ep)
    (q : ∀ h', h' = hp.push (itO d .none false 0 ea.size ep .none .none) → Q (.ref hp.objs.size) ⟨h', g, dr, tk, os⟩) :
    wpAny (model PP w) A (pyIter (.ref vw)) Q E ⟨hp, g, dr, tk, os⟩ := by
  obtain ⟨o, ho, hdat⟩ := hm
  have ty : Shared.TypeIs ⟨hp, g, dr, tk, os⟩ (.ref vw) "dict_items" := ⟨_, hv, rfl⟩
  refine wpAny_pyIter_slot ty F.slot_dict_items_iter (wpAny_call_entry F.slot_dict_items_iter ty F.entry_dict_items_iter ?_ (F.args_dict_items_iter_1 _))
  unfold Builtin.«dict_items.__iter__»
  refine wpAny_bind (wpAny_pure (wpAny_bind ?_))
  unfold Builtin.Dict_items.dictOf
  refine wpAny_bind (wpAny_field hv rfl (x := .ref d) rfl (wpAny_pure (wpAny_bind ?_)))
  unfold Builtin.Dict_items.newIterator
  refine wpAny_bind (wpAny_dictEntries ho hdat (wpAny_bind (wpAny_dictEpoch ho hdat ?_)))
  simp only [ownsI, if_true]
  refine wpAny_newObj_type (wpAny_pure ⟨_, rfl, "dict_itemiterator", _, ⟨_, Heap.get?_push_size _ rfl, rfl⟩, F.slot_dict_itemiterator_next.lookup, ?_⟩)
    (by simp only [sizeOk, Builtin.Dict_items.ownedTupleFields, List.size_toArray, List.length_append, List.length_cons, List.length_nil, sizeLine_eq]; omega)
  have := q _ rfl
  simpa [rawInt, Builtin.Dict_items.ownedTupleFields, itO] using this
theorem dview {Q : Value → Shared → Prop} {E : Value → Shared → Prop} (hh : A.handled = none) (X : (hd.heap_39 w.params).In hp) (hv : hp.get? vw = some (viewO "dict_items" d)) (hm : VD hp d es.toArray ep) (hE : EK w es c) (hn : (c.map (·.1)).Nodup) (hsz : c.length ≤ 1000)
    (q : ∀ D h' tk' es' n', D = hp.objs.size → hp.get? D = none → (∀ b o, hp.get? b = some o → h'.get? b = some o) → h'.get? D = some (dictOf es' n') → EK w es' c → Q (.ref D) ⟨h', g, dr, tk', os⟩) :
    wpAny (model PP w) A (call (.type "dict") [.ref vw]) Q E ⟨hp, g, dr, tk, os⟩ := by
  have hDn : hp.get? hp.objs.size = none := by
    cases e : hp.get? hp.objs.size with
    | none => rfl
    | some o => exact absurd (Heap.lt_size e) (Nat.lt_irrefl _)
  refine callType_codes (Q₁ := fun obj s₁ => obj = .ref hp.objs.size ∧ s₁ = ⟨hp.push { cls := .type "dict", data := .dict #[] }, g, dr, tk, os⟩) F.kt_called_dict (F.kt_typeCall_dict_1 _) F.entry_dict_init (kt_code_dict_new _ ⟨rfl, rfl⟩) ?_
  rintro obj s₁ ⟨rfl, rfl⟩
  have up : ∀ b o, hp.get? b = some o → (hp.push { cls := .type "dict", data := .dict #[] }).get? b = some o := fun b o e => Heap.get?_push_of_some _ e
  have hDs : (hp.push { cls := .type "dict", data := .dict #[] }).get? hp.objs.size = some (dictOf [] 0) := Heap.get?_push_size _ rfl
  generalize hp.push { cls := .type "dict", data := .dict #[] } = h1 at up hDs ⊢
  have tyD : Shared.TypeIs ⟨h1, g, dr, tk, os⟩ (.ref hp.objs.size) "dict" := ⟨_, hDs, rfl⟩
  have tyV : Shared.TypeIs ⟨h1, g, dr, tk, os⟩ (.ref vw) "dict_items" := ⟨_, up _ _ hv, rfl⟩
  refine ⟨tyD, F.args_dict_init_2 _ _, ?_⟩
  unfold Builtin.«dict.__init__»
  refine wpAny_bind ?_
  unfold Builtin.Dict.selfAndRest
  refine wpAny_bind (wpAny_notOrdered_dict tyD ?_)
  show wpAny _ _ (pure (hp.objs.size, [Value.ref vw])) _ _ _
  refine wpAny_pure ?_
  show wpAny _ _ (Builtin.Dict.updateFrom "dict.__init__" hp.objs.size (.ref vw) [] .none) _ _ _
  unfold Builtin.Dict.updateFrom
  refine wpAny_bind (wpAny_typeOf tyV ?_)
  rw [if_pos (by decide)]
  refine wpAny_bind (no_keys (X.keeps up) hh (up _ _ hv) fun h2 t2 k2 => ?_)
  rw [if_pos (by rfl)]
  refine wpAny_bind (wpAny_rule (wpAny_bind (iter_items (k2 _ _ (up _ _ hv)) ((hm.at (up d)).at (k2 d)) fun h3 e3 => ?_)))
  have it3 : h3.get? h2.objs.size = some (itO d .none false 0 es.toArray.size ep .none .none) := by rw [e3]; exact Heap.get?_push_size _ rfl
  have k3 : ∀ b o, h2.get? b = some o → h3.get? b = some o := fun b o e => by rw [e3]; exact Heap.get?_push_of_some _ e
  have lt : ∀ b o, hp.get? b = some o → b ≠ hp.objs.size ∧ b ≠ h2.objs.size := fun b o e => ⟨Nat.ne_of_lt (Heap.lt_size e), Nat.ne_of_lt (Heap.lt_size (k2 _ _ (up _ _ e)))⟩
  obtain ⟨od, hod, hdd⟩ := id hm
  have hD3 := k3 _ _ (k2 _ _ hDs)
  refine wpAny_pure ⟨plainId_quiet pl_loop _, ?_⟩
  refine upd_loop (A := A.in1) (base := hp) (it := h2.objs.size) (d := d) (D := hp.objs.size) (es := es) (ep := ep) hh hE hn hsz (Nat.ne_of_lt (Heap.lt_size (k2 _ _ hDs))) (lt _ _ hod).1.symm (lt _ _ hod).2 (fun h' tk' es' n' k hD hE' => ?_)
    es.length 0 h3 t2 [] 0 0 0 (by omega) (by omega) ⟨_, _, _, _, by simpa using it3, .inl ⟨rfl, rfl⟩⟩ (((hm.at (up d)).at (k2 d)).at (k3 d)) (fun b o _ _ e => k3 _ _ (k2 _ _ (up _ _ e))) hD3 EK.nil
  exact ⟨rfl, q _ h' tk' es' n' rfl hDn (fun b o e => k b o (lt b o e).1 (lt b o e).2 e) hD hE'⟩
end
end Mine
end
section
open PySem PySem.W PyProof.Rows PySem.Calls
set_option maxRecDepth 100000
set_option maxHeartbeats 8000000
theorem Mine.walkResetS28 : True := by w_top off; trivial
namespace Mine
theorem front1 {h₀ h : Heap} {L x : Addr} {o : Obj} {news : List (Addr × Obj)} {gg : Obj → List (Addr × Obj)} (U : UpdF x o news gg) (N : News h₀ L h news) : News h₀ L h ((x, o) :: offOf x news) := news_sub N fun p hp => by
  rcases List.mem_cons.mp hp with rfl | hp
  · exact upd_mem U
  · exact (List.mem_filter.mp hp).1
theorem back_mem1 {x : Addr} {o o' : Obj} {news : List (Addr × Obj)} {gg : Obj → List (Addr × Obj)} (U : UpdF x o news gg) : ∀ p ∈ gg o', p ∈ ((x, o') :: offOf x news) := by
  obtain ⟨pre, post, e1, e2, p1, p2⟩ := U.split
  intro p hp
  rw [e2] at hp
  have go : ∀ (hp : p ∈ news) (hx : p.1 ≠ x), p ∈ ((x, o') :: offOf x news) := fun hp hx => .tail _ (List.mem_filter.mpr ⟨hp, by simpa using hx⟩)
  rcases List.mem_append.mp hp with hp | hp
  · exact go (by rw [e1]; exact List.mem_append_left _ hp) (p1 p hp)
  · rcases List.mem_cons.mp hp with rfl | hp
    · exact .head _
    · exact go (by rw [e1]; exact List.mem_append_right _ (.tail _ hp)) (p2 p hp)
section
variable {h₀ h : Heap} {L x dx : Addr} {o o' od : Obj} {q q2 : Addr × Obj} {news : List (Addr × Obj)} {gg : Obj → List (Addr × Obj)}
theorem back2 (U : UpdF x o news gg) (N : News h₀ L h (q :: q2 :: (x, o') :: (dx, od) :: offOf x news)) : News h₀ L h (q :: q2 :: gg o') := news_sub N fun p hp => by
  rcases List.mem_cons.mp hp with rfl | hp
  · exact .head _
  · rcases List.mem_cons.mp hp with rfl | hp
    · exact .tail _ (.head _)
    · exact .tail _ (.tail _ (back_mem U p hp))
theorem backCS (U : UpdF x o news gg) (N : News h₀ L h (q :: (x, o) :: (dx, od) :: offOf x news)) : News h₀ L h (q :: news) := by
  have := backC U N
  rwa [upd_same U] at this
theorem backD (U : UpdF x o news gg) (N : News h₀ L h (q :: (x, o') :: offOf x news)) : News h₀ L h (q :: gg o') := news_sub N fun p hp => by
  rcases List.mem_cons.mp hp with rfl | hp
  · exact .head _
  · exact .tail _ (back_mem1 U p hp)
theorem backD2 (U : UpdF x o news gg) (N : News h₀ L h (q :: q2 :: (x, o') :: offOf x news)) : News h₀ L h (q :: q2 :: gg o') := news_sub N fun p hp => by
  rcases List.mem_cons.mp hp with rfl | hp
  · exact .head _
  · rcases List.mem_cons.mp hp with rfl | hp
    · exact .tail _ (.head _)
    · exact .tail _ (.tail _ (back_mem1 U p hp))
theorem backDS (U : UpdF x o news gg) (N : News h₀ L h (q :: (x, o) :: offOf x news)) : News h₀ L h (q :: news) := by
  have := backD U N
  rwa [upd_same U] at this
end
theorem u_next {w : World} {A₀ : Around} {base h₀ : Heap} {outer : List Env} {env : Env} {A : Around} {L : Addr} {m mg mb : Str → Option Value} {s : Shared} {p : Program} {loose : List Str} {mean : ExcName → Option Value}
    {news : List (Addr × Obj)} {gg : Obj → List (Addr × Obj)} {Q : Value → Shared → Prop} {E : Value → Shared → Prop} {st sl : Addr} {i t many : Int} {ti tt tm : Tok} {e1 e2 : Nat} {vs : List Value} {ns : List Int}
    (hA0 : A.handled = none) (hA : A.frames = some (env :: outer)) (hcr : A.depth + 100 < recursionLimit) (hcu : A.units + 400 < cLine)
    (B : Below A₀ base outer h₀) (F : Fr h₀ L s.heap m) (X₀ : (hd.heap_39 w.params).In h₀) (N : News h₀ L s.heap news) (U : UpdF st (W.listOf #[.ref sl, .int i ti, .int t tt] e1) news gg) (hs : (sl, W.listOf vs.toArray e2) ∈ news) (hne : sl ≠ st) (T : Top p loose mean mg mb h₀)
    (hf : env.frame = some L) (hk : env.scope.kind = .function) (hI : IntsAre vs ns) (hlen : ns.length ≤ 40) (h0 : 0 ≤ i) (h1 : i ≤ ns.length) (hm : 0 < many) (hm2 : many ≤ 100)
    (hQ : ∀ h' tk i' t' ti' tt' e1' r tr, Fr h₀ L h' m → News h₀ L h' (gg (W.listOf #[.ref sl, .int i' ti', .int t' tt'] e1')) → 0 ≤ i' → i' ≤ ns.length → 0 ≤ r → r < many → Q (.int r tr) { s with heap := h', toks := tk }) :
    wpAny (model PP w) A (call (.ref 181) [.ref st, .int many tm]) Q E s :=
  g_next hA0 hA hcr hcu B F X₀ (frontN U hs N) T hf hk (fun p hp => by
    rcases List.mem_cons.mp hp with rfl | hp
    · exact hne
    · exact off_ne p hp) hI hlen h0 h1 hm hm2 fun h' tk i' t' ti' tt' e1' r tr F' N' a b c d => hQ h' tk i' t' ti' tt' e1' r tr F' (backN U N') a b c d

theorem u_done {w : World} {A₀ : Around} {h₀ : Heap} {env : Env} {A : Around} {L : Addr} {m mg mb : Str → Option Value} {s : Shared} {p : Program} {loose : List Str} {mean : ExcName → Option Value}
    {told dx : Addr} {es : List DictEntry} {n : Nat} {c : Ents} {news : List (Addr × Obj)} {gg : Obj → List (Addr × Obj)} {Q : Value → Shared → Prop} {E : Value → Shared → Prop} {x ux : Str} {t : Tok} {kind v : Int} {tkd tv : Tok}
    (hA0 : A.handled = none) (hA : A.frames = some (env :: [])) (hcr : A.depth + 120 < recursionLimit) (hcu : A.units + 500 < cLine)
    (B : Below A₀ h₀ [] h₀) (F : Fr h₀ L s.heap m) (X₀ : (hd.heap_39 w.params).In h₀) (N : News h₀ L s.heap news) (U : UpdF told (cdObj dx es n) news gg) (hm : (dx, dictOf [] 0) ∈ news) (T : Top p loose mean mg mb h₀)
    (hf : env.frame = some L) (hk : env.scope.kind = .function) (hdx : dx ≠ told) (hE : EK w es c) (hxs : (told == sysModules) = false) (hup : Txt.upper x = ux) (hul : PySem.Builtin.Str.tooLong (Txt.upper x).length = false) (hsz : c.length ≤ 1000) (hKE : mg (Str.ofString "KeyError") = none)
    (hF : ∀ h' tk es' n' c' T val r, deed kind c ux v = (some r, c') → RF r val → EK w es' c' → Fr h₀ L h' m → News h₀ L h' ((T, { cls := .type "tuple", data := .seq #[.bool true, val] }) :: gg (cdObj dx es' n')) → Q (.ref T) { s with heap := h', toks := tk })
    (hR : ∀ h' tk es' n' c' T a o r, deed kind c ux v = (some r, c') → RR r o → EK w es' c' → Fr h₀ L h' m → News h₀ L h' ((T, { cls := .type "tuple", data := .seq #[.bool true, .ref a] }) :: (a, o) :: gg (cdObj dx es' n')) → Q (.ref T) { s with heap := h', toks := tk })
    (hX : ∀ h' tk T, deed kind c ux v = (none, c) → Fr h₀ L h' m → News h₀ L h' ((T, { cls := .type "tuple", data := .seq #[.bool false, .none] }) :: news) → Q (.ref T) { s with heap := h', toks := tk }) :
    wpAny (model PP w) A (call (.ref 195) [.ref told, .int kind tkd, .str x t, .int v tv]) Q E s :=
  g_done hA0 hA hcr hcu B F X₀ (frontN U hm N) T hf hk off_ne hdx hE hxs hup hul hsz hKE
    (fun h' tk es' n' c' T val r a b c F' N' => hF h' tk es' n' c' T val r a b c F' (backC U N'))
    (fun h' tk es' n' c' T v o r a b c F' N' => hR h' tk es' n' c' T v o r a b c F' (back2 U N'))
    (fun h' tk T a F' N' => hX h' tk T a F' (backCS U N'))

theorem u_doneD {w : World} {A₀ : Around} {h₀ : Heap} {env : Env} {A : Around} {L : Addr} {m mg mb : Str → Option Value} {s : Shared} {p : Program} {loose : List Str} {mean : ExcName → Option Value}
    {told : Addr} {es : List DictEntry} {n : Nat} {c : Ents} {news : List (Addr × Obj)} {gg : Obj → List (Addr × Obj)} {Q : Value → Shared → Prop} {E : Value → Shared → Prop} {x : Str} {t : Tok} {kind v : Int} {tkd tv : Tok}
    (hA0 : A.handled = none) (hA : A.frames = some (env :: [])) (hcr : A.depth + 120 < recursionLimit) (hcu : A.units + 500 < cLine)
    (B : Below A₀ h₀ [] h₀) (F : Fr h₀ L s.heap m) (X₀ : (hd.heap_39 w.params).In h₀) (N : News h₀ L s.heap news) (U : UpdF told (dictOf es n) news gg) (T : Top p loose mean mg mb h₀)
    (hf : env.frame = some L) (hk : env.scope.kind = .function) (hE : EK w es c) (hxs : (told == sysModules) = false)  (hsz : c.length ≤ 1000) (hKE : mg (Str.ofString "KeyError") = none)
    (hF : ∀ h' tk es' n' c' T val r, deed kind c x v = (some r, c') → RF r val → EK w es' c' → Fr h₀ L h' m → News h₀ L h' ((T, { cls := .type "tuple", data := .seq #[.bool true, val] }) :: gg (dictOf es' n')) → Q (.ref T) { s with heap := h', toks := tk })
    (hR : ∀ h' tk es' n' c' T a o r, deed kind c x v = (some r, c') → RR r o → EK w es' c' → Fr h₀ L h' m → News h₀ L h' ((T, { cls := .type "tuple", data := .seq #[.bool true, .ref a] }) :: (a, o) :: gg (dictOf es' n')) → Q (.ref T) { s with heap := h', toks := tk })
    (hX : ∀ h' tk T, deed kind c x v = (none, c) → Fr h₀ L h' m → News h₀ L h' ((T, { cls := .type "tuple", data := .seq #[.bool false, .none] }) :: news) → Q (.ref T) { s with heap := h', toks := tk }) :
    wpAny (model PP w) A (call (.ref 195) [.ref told, .int kind tkd, .str x t, .int v tv]) Q E s :=
  g_doneD hA0 hA hcr hcu B F X₀ (front1 U N) T hf hk off_ne hE hxs hsz hKE
    (fun h' tk es' n' c' T val r a b c F' N' => hF h' tk es' n' c' T val r a b c F' (backD U N'))
    (fun h' tk es' n' c' T v o r a b c F' N' => hR h' tk es' n' c' T v o r a b c F' (backD2 U N'))
    (fun h' tk T a F' N' => hX h' tk T a F' (backDS U N'))

end Mine
end
section
open PySem PySem.W PyProof.Rows PySem.Calls PySem.SeqAt
set_option maxRecDepth 100000
set_option maxHeartbeats 8000000
theorem Mine.walkResetS29 : True := by w_top off; trivial
namespace Mine
-- pure: keys without repetition among the five
def keysC (c : Ents) : List Str := c.map (·.1)
def GoodC (c : Ents) : Prop := (c.map (·.1)).Nodup ∧ ∀ p ∈ c, p.1 ∈ five
theorem nodup_len {α : Type} [DecidableEq α] : ∀ {l m : List α}, l.Nodup → (∀ x ∈ l, x ∈ m) → l.length ≤ m.length
  | [], _, _, _ => Nat.zero_le _
  | x :: l, m, h, hs => by
    have h' := List.nodup_cons.mp h
    have hx := hs x (.head _)
    have := nodup_len (m := m.erase x) h'.2 fun y hy => (List.mem_erase_of_ne (fun e => h'.1 (by rw [← e]; exact hy))).mpr (hs y (.tail _ hy))
    have hl := List.length_erase_of_mem hx
    have hp : 0 < m.length := List.length_pos_of_mem hx
    simp only [List.length_cons]
    omega
theorem GoodC.len {c : Ents} (h : GoodC c) : c.length ≤ 5 := by
  have := nodup_len (l := c.map (·.1)) (m := five) h.1 fun x hx => by
    obtain ⟨p, hp, rfl⟩ := List.mem_map.mp hx
    exact h.2 p hp
  rw [List.length_map] at this
  exact this
theorem GoodC.nil : GoodC [] := ⟨List.nodup_nil, fun _ h => nomatch h⟩
theorem GoodC.sub {c c' : Ents} (h : GoodC c) (s : c'.Sublist c) : GoodC c' := ⟨h.1.sublist (s.map _), fun p hp => h.2 p (s.mem hp)⟩
theorem GoodC.del {c : Ents} {u : Str} (h : GoodC c) : GoodC (cdel c u) := by
  unfold cdel
  cases ix c u with
  | none => exact h
  | some i => exact h.sub (List.eraseIdx_sublist ..)
theorem GoodC.pop {c : Ents} (h : GoodC c) : GoodC c.dropLast := h.sub (List.dropLast_sublist _)
theorem modify_keys {v : Int} : ∀ (c : Ents) (i : Nat), ((c.modify i fun p => (p.1, v)).map (·.1)) = c.map (·.1)
  | [], i => by simp
  | p :: c, 0 => by simp
  | p :: c, i + 1 => by simp [modify_keys c i]
theorem GoodC.put {c : Ents} {u : Str} {v : Int} (h : GoodC c) (hu : u ∈ five) : GoodC (cput c u v) := by
  unfold cput
  cases hi : ix c u with
  | some i =>
    refine ⟨by rw [modify_keys]; exact h.1, fun p hp => ?_⟩
    have : p.1 ∈ (c.modify i fun p => (p.1, v)).map (·.1) := List.mem_map_of_mem hp
    rw [modify_keys] at this
    obtain ⟨q, hq, e⟩ := List.mem_map.mp this
    rw [← e]; exact h.2 q hq
  | none =>
    have hn : u ∉ c.map (·.1) := fun hm => by
      obtain ⟨p, hp, e⟩ := List.mem_map.mp hm
      unfold ix at hi
      have := List.findIdx?_eq_none_iff.mp hi p hp
      simp [e] at this
    refine ⟨?_, fun p hp => ?_⟩
    · rw [List.map_append]
      refine List.nodup_append.mpr ⟨h.1, by simp, fun a ha b hb => ?_⟩
      have hb' : b = u := by simpa using hb
      intro e
      exact hn (by rw [← hb', ← e]; exact ha)
    · rcases List.mem_append.mp hp with hp | hp
      · exact h.2 p hp
      · rw [List.mem_singleton.mp hp]; exact hu
theorem GoodC.deed {c c' : Ents} {kind v : Int} {u : Str} {r : Option Res} (h : GoodC c) (hu : u ∈ five) (e : deed kind c u v = (r, c')) : GoodC c' := by
  unfold Mine.deed at e
  repeat' split at e
  all_goals (obtain ⟨-, rfl⟩ := Prod.mk.inj e; first | exact h | exact h.put hu | exact h.del | exact h.pop)
-- a dict of such entries for the library's rules
def kvsOf (es : List DictEntry) (c : Ents) : List (Str × Value) := List.zipWith (fun e p => (p.1, e.val)) es c
theorem kvs_keys {w : World} : ∀ {es : List DictEntry} {c : Ents}, EK w es c → (kvsOf es c).map (·.1) = c.map (·.1)
  | [], [], _ => rfl
  | e :: es, p :: c, h => by show p.1 :: (kvsOf es c).map (·.1) = p.1 :: c.map (·.1); rw [kvs_keys h.2]
  | [], _ :: _, h => h.elim
  | _ :: _, [], h => h.elim
theorem kvs_len {w : World} {es : List DictEntry} {c : Ents} (h : EK w es c) : (kvsOf es c).length = c.length := by
  have := congrArg List.length (kvs_keys h)
  simpa using this
theorem kvs_pairs {w : World} : ∀ {es : List DictEntry} {c : Ents}, EK w es c → Pairs (PySem.strKind PP w) es (kvsOf es c)
  | [], [], _ => .nil
  | e :: es, p :: c, h => by
    refine Pairs.cons (kv := (p.1, e.val)) ?_ rfl (kvs_pairs h.2)
    obtain ⟨⟨t, hk⟩, _⟩ := h.1
    rw [hk]; exact strKind_is _ _ _ _
  | [], _ :: _, h => h.elim
  | _ :: _, [], h => h.elim
theorem kvs_at {w : World} : ∀ {es : List DictEntry} {c : Ents}, EK w es c → ∀ {j : Nat} {k : Str} {x : Value}, (kvsOf es c)[j]? = some (k, x) → ∃ p t, c[j]? = some p ∧ k = p.1 ∧ x = .int p.2 t
  | e :: es, p :: c, h, 0, k, x, hx => by
    obtain ⟨rfl, rfl⟩ := Prod.mk.inj (Option.some.inj hx)
    obtain ⟨_, _, t, hv⟩ := h.1
    exact ⟨p, t, rfl, rfl, hv⟩
  | e :: es, p :: c, h, j + 1, k, x, hx => by
    obtain ⟨q, t, e1, e2, e3⟩ := kvs_at (j := j) h.2 hx
    exact ⟨q, t, e1, e2, e3⟩
  | [], [], _, _, _, _, hx => by simp [kvsOf] at hx
  | [], _ :: _, h, _, _, _, _ => h.elim
  | _ :: _, [], h, _, _, _, _ => h.elim
theorem dictAt_EK {w : World} {h : Heap} {d : Addr} {es : List DictEntry} {n : Nat} {c : Ents} (ho : h.get? d = some (dictOf es n)) (hE : EK w es c) (hn : (c.map (·.1)).Nodup) : h.DictAt (PySem.strKind PP w) d (kvsOf es c) n :=
  ⟨_, _, ho, ⟨rfl, rfl, rfl⟩, rfl, hE.keysOf, kvs_pairs hE, by rw [kvs_keys hE]; exact hn⟩
-- comparing two such dicts
def DEq (c c2 : Ents) (r : Bool) : Prop := (c2 = c ∧ r = true) ∨ (c2.length ≠ c.length ∧ r = false)
theorem hits_EK {w : World} {A : Around} {s : Shared} : ∀ {es es2 : List DictEntry} {c : Ents} {kb : List (Str × Value)}, EK w es c → EK w es2 c → (∀ k x, (k, x) ∈ kvsOf es2 c → valueAt kb k = some x) → KeqHits A s kb (kvsOf es c) true
  | [], [], [], _, _, _, _ => .nil
  | e :: es, f :: es2, p :: c, kb, h, h2, hv => by
    show KeqHits A s kb ((p.1, e.val) :: kvsOf es c) true
    have hy := hv p.1 f.val (.head _)
    obtain ⟨_, _, t, e1⟩ := h.1
    obtain ⟨_, _, t', e2⟩ := h2.1
    have eq : EqAt A s e.val f.val true := by
      rw [e1, e2]
      have := EqAt.int_int (A := A) (s := s) p.2 t p.2 t'
      rwa [beq_self_eq_true] at this
    exact KeqHits.hit (e := true) (b := true) hy eq (hits_EK h.2 h2.2 fun k x hm => hv k x (.tail _ hm))
  | [], [], _ :: _, _, h, _, _ => h.elim
  | [], _ :: _, [], _, _, h2, _ => h2.elim
  | [], _ :: _, _ :: _, _, h, _, _ => h.elim
  | _ :: _, [], [], _, h, _, _ => h.elim
  | _ :: _, [], _ :: _, _, _, h2, _ => h2.elim
  | _ :: _, _ :: _, [], _, h, _, _ => h.elim
theorem valueAt_mem {k : Str} {x : Value} : ∀ {kb : List (Str × Value)}, (kb.map (·.1)).Nodup → (k, x) ∈ kb → valueAt kb k = some x
  | q :: kb, hn, hm => by
    have hn' := List.nodup_cons.mp hn
    unfold valueAt
    rw [List.find?_cons]
    rcases List.mem_cons.mp hm with rfl | hm
    · simp
    · have : q.1 ≠ k := fun e => hn'.1 (by show q.1 ∈ _; rw [e]; exact List.mem_map_of_mem (f := (·.1)) hm)
      rw [show decide (q.1 = k) = false from decide_eq_false this]
      exact valueAt_mem hn'.2 hm
section
variable {w : World} {A : Around} {E : Value → Shared → Prop} {s : Shared} {h₀ : Heap} {L : Addr} {m : Str → Option Value} {news : List (Addr × Obj)} {d d2 dx vw : Addr} {es es2 : List DictEntry} {n n2 : Nat} {c c2 : Ents} {Q : Value → Shared → Prop} {o : Obj}
theorem ln_dict_eq {r : Bool} (N : News h₀ L s.heap news) (m1 : (d, dictOf es n) ∈ news) (m2 : (d2, dictOf es2 n2) ∈ news) (E1 : EK w es c) (E2 : EK w es2 c2) (n1 : (c.map (·.1)).Nodup) (n2' : (c2.map (·.1)).Nodup) (hd1 : (d == sysModules) = false) (hd2 : (d2 == sysModules) = false) (hr : DEq c c2 r)
    (hu : A.units < cLine) (h : Q (.bool r) s) : wpAny (model PP w) A (compareOp .Eq (.ref d) (.ref d2)) Q E s := by
  have D1 := (dictAt_EK (N _ m1).1 E1 n1).dictOf
  have D2 := (dictAt_EK (N _ m2).1 E2 n2').dictOf
  have l1 := kvs_len E1
  have l2 := kvs_len E2
  rcases hr with ⟨rfl, rfl⟩ | ⟨hl, rfl⟩
  · refine keq_eq (r := true) hd1 hd2 D1 D2 hu (fun _ => hits_EK E1 E2 fun k x hm => valueAt_mem (by rw [kvs_keys E2]; exact n2') hm) ?_
    rw [l1, l2]; simpa using h
  · have hne : (kvsOf es c).length ≠ (kvsOf es2 c2).length := by rw [l1, l2]; exact fun e => hl e.symm
    refine keq_eq (r := true) hd1 hd2 D1 D2 hu (fun e => absurd e hne) ?_
    have : ((kvsOf es c).length == (kvsOf es2 c2).length) = false := by simpa using hne
    rw [this]; exact h
/-- an object of either kind -/
def IsD (es : List DictEntry) (n : Nat) (o : Obj) : Prop := (∃ dx, o = cdObj dx es n) ∨ o = dictOf es n
theorem IsD.vd {h : Heap} (hk : IsD es n o) (e : h.get? d = some o) : VD h d es.toArray n := by
  rcases hk with ⟨dx, rfl⟩ | rfl
  · exact ⟨_, e, rfl⟩
  · exact ⟨_, e, rfl⟩
theorem news_add {h h' : Heap} {seg : List (Addr × Obj)} (F : Fr h₀ L h m) (N : News h₀ L h news) (k : ∀ b o, h.get? b = some o → h'.get? b = some o) (hs : ∀ p ∈ seg, h'.get? p.1 = some p.2 ∧ h.get? p.1 = none) : Fr h₀ L h' m ∧ News h₀ L h' (seg ++ news) := by
  obtain ⟨F', N'⟩ := keep_fn F N k
  obtain ⟨oL, es, ep, hL, r⟩ := F.ns
  refine ⟨F', fun p hp => ?_⟩
  rcases List.mem_append.mp hp with hp | hp
  · obtain ⟨a, b⟩ := hs p hp
    refine ⟨a, fun e => ?_, ?_⟩
    · rw [e, hL] at b; cases b
    · cases z : h₀.get? p.1 with
      | none => rfl
      | some o => rw [F.keep _ _ z] at b; cases b
  · exact N' p hp
theorem ln_dictV (hh : A.handled = none) (F : Fr h₀ L s.heap m) (X₀ : (hd.heap_39 w.params).In h₀) (N : News h₀ L s.heap news) (hb : h₀.NoLimit) (hv : (vw, viewO "dict_items" d) ∈ news) (hp : (d, o) ∈ news) (hk : IsD es n o) (hE : EK w es c) (hn : (c.map (·.1)).Nodup) (hsz : c.length ≤ 1000)
    (h : ∀ D h' tk es' n', Fr h₀ L h' m → News h₀ L h' ((D, dictOf es' n') :: news) → (∀ q ∈ news, q.1 ≠ D) → (D == sysModules) = false → EK w es' c → Q (.ref D) { s with heap := h', toks := tk }) :
    wpAny (model PP w) A (call (.type "dict") [.ref vw]) Q E s := by
  obtain ⟨hh', g, dr, tk, os⟩ := s
  refine dview hh (X₀.keeps F.keep) (N _ hv).1 (hk.vd (N _ hp).1) hE hn hsz fun D h' tk' es' n' hDs hD k ho hE' => ?_
  obtain ⟨a, b⟩ := news_add (seg := [(D, dictOf es' n')]) F N k fun p hp => by rw [List.mem_singleton.mp hp]; exact ⟨ho, hD⟩
  refine h D h' tk' es' n' a b (fun q hq e => ?_) (hDs ▸ F.notModules (modules_low hb)) hE'
  have := (N q hq).1
  rw [e, hD] at this; cases this
-- lists of pairs
def Rows (c : Ents) (as : List Addr) (seg : List (Addr × Obj)) : Prop := as.length = c.length ∧ ∀ (j : Nat) (a : Addr) (p : Str × Int), as[j]? = some a → c[j]? = some p → ∃ t t', (a, tupO #[.str p.1 t, .int p.2 t']) ∈ seg
abbrev lstO (as : List Addr) (ep : Nat) : Obj := { cls := .type "list", dict := none, data := .seq (as.map Value.ref).toArray ep, slots := #[] }
theorem ln_rows_ne {l1 l2 : Addr} {as1 as2 : List Addr} {e1 e2 : Nat} {seg1 seg2 : List (Addr × Obj)} (N : News h₀ L s.heap news) (m1 : (l1, lstO as1 e1) ∈ news) (m2 : (l2, lstO as2 e2) ∈ news) (r1 : Rows c as1 seg1) (r2 : Rows c as2 seg2) (s1 : ∀ p ∈ seg1, p ∈ news) (s2 : ∀ p ∈ seg2, p ∈ news)
    (hu : A.units + 1 < cLine) (h : Q (.bool false) s) : wpAny (model PP w) A (compareOp .NotEq (.ref l1) (.ref l2)) Q E s := by
  have i1 : s.heap.IsList l1 (as1.map Value.ref).toArray := ⟨_, (N _ m1).1, rfl, _, rfl⟩
  have i2 : s.heap.IsList l2 (as2.map Value.ref).toArray := ⟨_, (N _ m2).1, rfl, _, rfl⟩
  have z1 : (as1.map Value.ref).toArray.size = c.length := by simp [r1.1]
  have z2 : (as2.map Value.ref).toArray.size = c.length := by simp [r2.1]
  have := RcNeAt.lists (A := A) (s := s) (e := fun _ => true) i1 i2 (by rw [z1, z2]) (by omega) fun j q1 q2 => ?_
  · refine cmp_ofNotEq (this _ _ _ _ ?_)
    rw [show (List.range (as1.map Value.ref).toArray.size).all (fun _ => true) = true by simp]
    exact h
  · have j1 : j < as1.length := by simpa using q1
    have j2 : j < as2.length := by simpa using q2
    have jc : j < c.length := by rw [← r1.1]; exact j1
    have g1 : (as1.map Value.ref).toArray[j] = .ref as1[j] := by simp
    have g2 : (as2.map Value.ref).toArray[j] = .ref as2[j] := by simp
    rw [g1, g2]
    obtain ⟨t1, u1, x1⟩ := r1.2 j as1[j] c[j] (by simp [j1]) (by simp [jc])
    obtain ⟨t2, u2, x2⟩ := r2.2 j as2[j] c[j] (by simp [j2]) (by simp [jc])
    have x1' := (N _ (s1 _ x1)).1
    have x2' := (N _ (s2 _ x2)).1
    by_cases q : as1[j] = as2[j]
    · rw [q]; exact EqAt.same _
    · refine eq_tup x1' x2' (by show A.units + 1 < cLine; exact hu) q ?_ ?_
      · have := EqAt.str_str (A := A.in1.in1) (s := s) c[j].1 t1 c[j].1 t2
        rwa [beq_self_eq_true] at this
      · have := EqAt.int_int (A := A.in1.in1) (s := s) c[j].2 u1 c[j].2 u2
        rwa [beq_self_eq_true] at this
end
end Mine
end
section
open PySem PySem.W PyProof.Rows PySem.Calls PySem.SeqAt
set_option maxRecDepth 100000
set_option maxHeartbeats 8000000
theorem Mine.walkResetS30 : True := by w_top off; trivial
namespace Mine
section
variable {w : World} {A : Around} {hp : Heap} {g : Array GenState} {dr : Drawn} {tk : Nat} {os : OsState} {S I d vw : Addr} {es : List DictEntry} {ep : Nat}
abbrev arrO (acc : Array Value) (c : Nat) : Obj := { cls := .type "list", dict := none, data := .seq acc c, slots := #[] }
def RowE (es : List DictEntry) (as : List Addr) (h base : Heap) : Prop := ∀ (j : Nat) (a : Addr), as[j]? = some a → base.get? a = none ∧ ∃ e, es[j]? = some e ∧ h.get? a = some (tupO #[e.key, e.val])
abbrev ExtR (R : Result → Shared → Prop) (S : Addr) (es : List DictEntry) (res : Value) (base : Heap) (g : Array GenState) (dr : Drawn) (os : OsState) : Prop :=
  ∀ h' tk' acc c (as : List Addr), (∀ b o, base.get? b = some o → h'.get? b = some o) → h'.get? S = some (arrO acc c) → acc.toList = as.map Value.ref → as.length = es.length → RowE es as h' base → R (.ok (.ret res)) ⟨h', g, dr, tk', os⟩
theorem gone {h : Heap} {a : Addr} (l : h.objs.size ≤ a) : h.get? a = none := by
  cases e : h.get? a with
  | none => rfl
  | some o => exact absurd (Heap.lt_size e) (Nat.not_lt.mpr l)
theorem not_gone {h : Heap} {a b : Addr} {o : Obj} (n : h.get? a = none) (e : h.get? b = some o) : b ≠ a := by rintro rfl; rw [n] at e; cases e
theorem ext_loop {R : Result → Shared → Prop} {base : Heap} (hh : A.handled = none) (hz : es.length ≤ 1000) (hSI : S ≠ I) (hdS : d ≠ S) (hdI : d ≠ I) (res : Value) (bS : base.get? S = none) (bI : base.get? I = none)
    (hR : ExtR R S es res base g dr os) :
    ∀ (k i : Nat) (h : Heap) (tk c : Nat) (acc : Array Value) (as : List Addr), es.length - i = k → i ≤ es.length → ItS h I d i es.length ep → VD h d es.toArray ep → (∀ b o, base.get? b = some o → h.get? b = some o) →
      h.get? S = some (arrO acc c) → acc.toList = as.map Value.ref → as.length = i → (∀ a ∈ as, a ≠ S ∧ a ≠ I) → RowE es as h base →
      codeAny (model PP w) A (.builtin "list.extend.loop" ⟨[.ref S, .ref I, res], []⟩) R ⟨h, g, dr, tk, os⟩ := by
  intro k
  induction k with
  | zero =>
    intro i h tk c acc as hk hi hit hd hkeep hS hacc hal hne hrow
    obtain rfl : i = es.length := by omega
    refine codeAny_builtin PySem.F.entry_extend_loop ?_
    rw [Around.under_plainId PySem.F.plain_extend_loop _]
    show wpAny _ A.in1 (pyNext (.ref I) >>= _) _ _ _
    refine wpAny_bind (ni_end (es := es.toArray) hh (by simpa using hit) hd fun h' k' => ?_)
    refine wpAny_pure (hR h' tk acc c as (fun b o e => k' b o (not_gone bI e) (hkeep b o e)) (k' S _ hSI hS) hacc hal fun j a hj => ?_)
    obtain ⟨h1, e, h2, h3⟩ := hrow j a hj
    exact ⟨h1, e, h2, k' a _ (hne a (List.mem_of_getElem? hj)).2 h3⟩
  | succ k ih =>
    intro i h tk c acc as hk hi hit hd hkeep hS hacc hal hne hrow
    have hlt : i < es.length := by omega
    have hsz : acc.size = i := by rw [← Array.length_toList, hacc, List.length_map, hal]
    refine codeAny_builtin PySem.F.entry_extend_loop ?_
    rw [Around.under_plainId PySem.F.plain_extend_loop _]
    show wpAny _ A.in1 (pyNext (.ref I) >>= _) _ _ _
    refine wpAny_bind (ni_item (es := es.toArray) (i := i) (by simpa using hit) hd (by simpa using hlt) fun T h' hT hit' hTT k' => ?_)
    have hS' := k' S _ hSI hS
    have hTS : T ≠ S := by rw [hT]; exact Nat.ne_of_gt (Heap.lt_size hS)
    have hTI : T ≠ I := by obtain ⟨x, f, y, z, a, -⟩ := hit; rw [hT]; exact Nat.ne_of_gt (Heap.lt_size a)
    have up : ∀ b o, b ≠ S → h'.get? b = some o → (h'.update S (Obj.mapSeq (·.push (Value.ref T)))).get? b = some o := fun b o hb e => (Heap.get?_update_other _ _ (Ne.symm hb)).trans e
    have hS'' := Heap.get?_update_self (Obj.mapSeq (·.push (Value.ref T))) hS' rfl
    have bT : base.get? T = none := by
      cases e : base.get? T with
      | none => rfl
      | some o => exact absurd (Heap.lt_size (hkeep _ _ e)) (by rw [hT]; exact Nat.lt_irrefl _)
    have ei : es.toArray[i]'(by simpa using hlt) = es[i] := by simp
    rw [ei] at hTT
    show wpAny _ A.in1 (updateSeq S (·.push (Value.ref T)) >>= _) _ _ _
    refine wpAny_bind ?_
    refine wpAny_updateSeq hS' rfl (wpAny_pure ⟨plainId_quiet PySem.F.plain_extend_loop _, ih (i + 1) _ tk _ (acc.push (Value.ref T)) (as ++ [T]) (by omega) hlt ?_ (VD.at (VD.at hd fun o e => k' d o hdI e) fun o e => up d o hdS e)
      (fun b o e => up b o (not_gone bS e) (k' b o (not_gone bI e) (hkeep b o e))) hS'' (by rw [Array.toList_push, hacc, List.map_append]; rfl) (by rw [List.length_append, hal]; rfl) ?_ ?_⟩) (by rw [hsz, sizeLine_eq]; omega) (by show (acc.push (Value.ref T)).size ≤ sizeLine + 1; rw [Array.size_push, hsz, sizeLine_eq]; omega)
    · have hit2 : ItS h' I d (i + 1) es.length ep := by simpa using hit'
      obtain ⟨x, f, y, z, a, b⟩ := hit2
      refine ⟨x, f, y, z, up _ _ hSI.symm a, ?_⟩
      rcases b with b | ⟨a', o, e1, e2, e3⟩
      · exact .inl b
      · by_cases q : a' = S
        · subst q; exact .inr ⟨a', _, e1, e2, hS''⟩
        · exact .inr ⟨a', o, e1, e2, up _ _ q e3⟩
    · intro a ha
      rcases List.mem_append.mp ha with ha | ha
      · exact hne a ha
      · rw [List.mem_singleton.mp ha]; exact ⟨hTS, hTI⟩
    · intro j a hj
      rcases Nat.lt_trichotomy j as.length with h1 | h1 | h1
      · rw [List.getElem?_append_left h1] at hj
        obtain ⟨h2, e, h3, h4⟩ := hrow j a hj
        have hn := hne a (List.mem_of_getElem? hj)
        exact ⟨h2, e, h3, up a _ hn.1 (k' a _ hn.2 h4)⟩
      · subst h1
        have hb : T = a := by simpa using hj
        subst hb
        exact ⟨bT, es[i], by rw [hal]; exact List.getElem?_eq_getElem hlt, up _ _ hTS hTT⟩
      · have hnone : (as ++ [T])[j]? = none := List.getElem?_eq_none (by rw [List.length_append, List.length_singleton]; omega)
        rw [hnone] at hj; cases hj
theorem ext_with {R : Result → Shared → Prop} {base : Heap} {c₀ : Nat} (hh : A.handled = none) (hz : es.length ≤ 1000) (hv : hp.get? vw = some (viewO "dict_items" d)) (hm : VD hp d es.toArray ep) (hSv : S ≠ vw) (hdS : d ≠ S) (hS : hp.get? S = some (arrO #[] c₀))
    (kb : ∀ b o, base.get? b = some o → hp.get? b = some o) (bS : base.get? S = none) (res : Value) (hR : ExtR R S es res base g dr os) :
    wpAny (model PP w) A.in1 (Builtin.List.listExtendWith (.ref S) (.ref vw) res)
      (fun fin s' => match fin with | .done f => R (.ok f) s' | .again c' => c'.quiet = true ∧ codeAny (model PP w) A c' R s') (fun e s' => R (.error e) s') ⟨hp, g, dr, tk, os⟩ := by
  have hSl : S < hp.objs.size := Heap.lt_size hS
  have hdl : d < hp.objs.size := by obtain ⟨o, e, -⟩ := hm; exact Heap.lt_size e
  have bI : base.get? hp.objs.size = none := by
    cases e : base.get? hp.objs.size with
    | none => rfl
    | some o => exact absurd (Heap.lt_size (kb _ _ e)) (Nat.lt_irrefl _)
  unfold Builtin.List.listExtendWith
  refine wpAny_bind (wpAny_typeOf (T := "dict_items") ⟨_, hv, rfl⟩ ?_)
  have h1 : Builtin.List.listSameRef (.ref S) (.ref vw) = false := by simp [Builtin.List.listSameRef, hSv]
  have h2 : (Value.type "dict_items" == Value.type "list") = false := by decide
  have h3 : (Value.type "dict_items" == Value.type "tuple") = false := by decide
  simp only [h1, h2, h3, Bool.or_false, Bool.false_eq_true, if_false]
  refine wpAny_bind (iter_items hv hm fun h1 e1 => ?_)
  have k1 : ∀ b o, hp.get? b = some o → h1.get? b = some o := fun b o e => by rw [e1]; exact Heap.get?_push_of_some _ e
  have hI : h1.get? hp.objs.size = some (itO d .none false 0 es.toArray.size ep .none .none) := by rw [e1]; exact Heap.get?_push_size _ rfl
  have key : ∀ (h : Heap) (c₁ tk : Nat), (∀ b o, b ≠ S → h1.get? b = some o → h.get? b = some o) → h.get? S = some (arrO #[] c₁) →
      codeAny (model PP w) A (.builtin "list.extend.loop" ⟨[.ref S, .ref hp.objs.size, res], []⟩) R ⟨h, g, dr, tk, os⟩ := by
    intro h c₁ tk k hS₁
    refine ext_loop (base := base) (d := d) (ep := ep) hh hz (Nat.ne_of_lt hSl) hdS (Nat.ne_of_lt hdl) res bS bI hR es.length 0 h tk c₁ #[] [] (Nat.sub_zero _) (Nat.zero_le _) ⟨_, _, _, _, k _ _ (Nat.ne_of_gt hSl) (by simpa using hI), .inl ⟨rfl, rfl⟩⟩
      ((hm.at (k1 d)).at fun o e => k d o hdS e) (fun b o e => k b o (not_gone bS e) (k1 b o (kb b o e))) hS₁ rfl rfl (fun a ha => nomatch ha) (fun j a hj => by simp at hj)
  have hS₁ := k1 _ _ hS
  refine wpAny_bind (wpAny_holding (kdx_hint ⟨_, k1 _ _ hv, rfl⟩ ?_))
  refine wpAny_ite_split (fun _ => ?_) (fun _ => wpAny_pure ⟨plainId_quiet PySem.F.plain_extend_loop _, key _ c₀ _ (fun b o _ e => e) hS₁⟩)
  refine wpAny_bind (wpAny_rule ?_)
  refine wpAny_bind ?_
  show wpAny _ _ (updateSeq S (·.push .none) >>= fun _ => updateSeq S (·.pop)) _ _ _
  refine wpAny_bind (wpAny_updateSeq hS₁ rfl ?_)
  have hS₂ := Heap.get?_update_self (Obj.mapSeq (·.push Value.none)) hS₁ rfl
  refine wpAny_updateSeq (hz := by seq_fits) hS₂ rfl ?_
  have hS₃ := Heap.get?_update_self (Obj.mapSeq (·.pop)) hS₂ rfl
  refine wpAny_pure ⟨plainId_quiet PySem.F.plain_extend_loop _, key _ _ _ (fun b o hb e => ?_) hS₃⟩
  exact (Heap.get?_update_other _ _ (Ne.symm hb)).trans ((Heap.get?_update_other _ _ (Ne.symm hb)).trans e)
theorem lview {Q : Value → Shared → Prop} {E : Value → Shared → Prop} (hh : A.handled = none) (hz : es.length ≤ 1000) (hv : hp.get? vw = some (viewO "dict_items" d)) (hm : VD hp d es.toArray ep)
    (hQ : ∀ h' tk' acc c (as : List Addr), (∀ b o, hp.get? b = some o → h'.get? b = some o) → h'.get? hp.objs.size = some (arrO acc c) → acc.toList = as.map Value.ref → as.length = es.length → RowE es as h' hp → Q (.ref hp.objs.size) ⟨h', g, dr, tk', os⟩) :
    wpAny (model PP w) A (call (.type "list") [.ref vw]) Q E ⟨hp, g, dr, tk, os⟩ := by
  refine callType_codes (Q₁ := fun obj s₁ => obj = .ref hp.objs.size ∧ s₁ = ⟨hp.push { cls := .type "list", data := .seq #[] }, g, dr, tk, os⟩) PySem.F.called_list (PySem.F.typeCall_list_1 _) PySem.F.entry_list_init (code_list_new _ ⟨rfl, rfl⟩) ?_
  rintro obj s₁ ⟨rfl, rfl⟩
  have up : ∀ b o, hp.get? b = some o → (hp.push { cls := .type "list", data := .seq #[] }).get? b = some o := fun b o e => Heap.get?_push_of_some _ e
  have hS : (hp.push { cls := .type "list", data := .seq #[] }).get? hp.objs.size = some (arrO #[] 0) := Heap.get?_push_size _ rfl
  generalize hp.push { cls := .type "list", data := .seq #[] } = h1 at up hS ⊢
  have nv : hp.objs.size ≠ vw := Nat.ne_of_gt (Heap.lt_size hv)
  have nd : d ≠ hp.objs.size := by obtain ⟨o, e, -⟩ := hm; exact Nat.ne_of_lt (Heap.lt_size e)
  refine ⟨⟨_, hS, rfl⟩, PySem.F.args_list_init_2 _ _, ?_⟩
  show wpAny _ _ (do let old ← Builtin.List.listItems (.ref hp.objs.size); Builtin.List.listUpdate (.ref hp.objs.size) (fun _ => #[]); letGo old.toList.reverse; Builtin.List.listExtendWith (.ref hp.objs.size) (.ref vw) .none) _ _ _
  refine wpAny_bind ?_
  unfold Builtin.List.listItems
  refine wpAny_bind (wpAny_seqItems hS rfl (wpAny_pure ?_))
  show wpAny _ _ (updateSeq hp.objs.size (fun _ => #[]) >>= fun _ => letGo (#[] : Array Value).toList.reverse >>= fun _ => Builtin.List.listExtendWith (.ref hp.objs.size) (.ref vw) .none) _ _ _
  refine wpAny_bind (wpAny_updateSeq hS rfl ?_)
  have hS₂ := Heap.get?_update_self (Obj.mapSeq (fun _ => (#[] : Array Value))) hS rfl
  have oth : ∀ b o, hp.get? b = some o → (h1.update hp.objs.size (Obj.mapSeq (fun _ => (#[] : Array Value)))).get? b = some o :=
    fun b o e => (Heap.get?_update_other _ _ (Nat.ne_of_gt (Heap.lt_size e))).trans (up b o e)
  refine wpAny_bind (wpAny_letGo ?_)
  refine ext_with (A := A.in1) (base := hp) hh hz (oth _ _ hv) (hm.at (oth d)) nv nd hS₂ oth (gone (Nat.le_refl _)) .none ?_
  intro h' tk' acc c as k hS' hacc hal hrow
  exact ⟨rfl, hQ h' tk' acc c as k hS' hacc hal hrow⟩
end
section
variable {w : World} {A : Around} {E : Value → Shared → Prop} {s : Shared} {h₀ : Heap} {L : Addr} {m : Str → Option Value} {news : List (Addr × Obj)} {d dx vw : Addr} {es : List DictEntry} {n : Nat} {c : Ents} {Q : Value → Shared → Prop}
def RowsQ (Q : Value → Shared → Prop) (h₀ : Heap) (L : Addr) (m : Str → Option Value) (news : List (Addr × Obj)) (c : Ents) (s : Shared) : Prop := ∀ l h' tk as ep seg, Fr h₀ L h' m → News h₀ L h' ((l, lstO as ep) :: (seg ++ news)) → Rows c as seg → (∀ q ∈ news, q.1 ≠ l) → Q (.ref l) { s with heap := h', toks := tk }
theorem ln_listV {o : Obj} (hh : A.handled = none) (F : Fr h₀ L s.heap m) (N : News h₀ L s.heap news) (hv : (vw, viewO "dict_items" d) ∈ news) (hp : (d, o) ∈ news) (ho : o.data = .dict es.toArray n) (hE : EK w es c) (hc : c.length ≤ 5) (h : RowsQ Q h₀ L m news c s) :
    wpAny (model PP w) A (call (.type "list") [.ref vw]) Q E s := by
  obtain ⟨hp', g, dr, tk, os⟩ := s
  have hl := hE.length
  refine lview (ep := n) hh (by rw [hl]; omega) (N _ hv).1 ⟨o, (N _ hp).1, ho⟩ fun h' tk' acc ep as k hS hacc hal hrow => ?_
  have hS' : h'.get? hp'.objs.size = some (lstO as ep) := by
    rw [hS]
    have : acc = (as.map Value.ref).toArray := by rw [← hacc, Array.toArray_toList]
    rw [this]
  have row : ∀ (j : Nat) (a : Addr) (p : Str × Int), as[j]? = some a → c[j]? = some p → ∃ t t', h'.get? a = some (tupO #[.str p.1 t, .int p.2 t']) := by
    intro j a p ha hp2
    obtain ⟨-, e, he, hg⟩ := hrow j a ha
    obtain ⟨e', he', ⟨t1, k1⟩, -, t2, k2⟩ := hE.at hp2
    obtain rfl : e = e' := by rw [he] at he'; exact Option.some.inj he'
    exact ⟨t1, t2, by rw [hg, k1, k2]⟩
  have hseg : ∃ seg : List (Addr × Obj), (∀ q ∈ seg, h'.get? q.1 = some q.2 ∧ hp'.get? q.1 = none) ∧ Rows c as seg := by
    refine ⟨(as.filterMap fun a => (h'.get? a).map fun o => (a, o)), fun q hq => ?_, by rw [hal, hl], fun j a p ha hp' => ?_⟩
    · obtain ⟨a, ha, e⟩ := List.mem_filterMap.mp hq
      obtain ⟨o, ho, rfl⟩ := Option.map_eq_some_iff.mp e
      obtain ⟨j, hj⟩ := List.mem_iff_getElem?.mp ha
      exact ⟨ho, (hrow j a hj).1⟩
    · obtain ⟨t, t', e⟩ := row j a p ha hp'
      exact ⟨t, t', List.mem_filterMap.mpr ⟨a, List.mem_of_getElem? ha, by rw [e]; rfl⟩⟩
  obtain ⟨seg, hs, hr⟩ := hseg
  obtain ⟨F', N'⟩ := news_add (seg := (hp'.objs.size, lstO as ep) :: seg) F N k fun p hp2 => by
    rcases List.mem_cons.mp hp2 with rfl | hp2
    · exact ⟨hS', gone (Nat.le_refl _)⟩
    · exact hs p hp2
  refine h _ h' tk' as ep seg F' N' hr fun q hq e => ?_
  exact absurd (Heap.lt_size (N q hq).1) (by rw [e]; exact Nat.lt_irrefl _)
theorem ln_listT (hh : A.handled = none) (F : Fr h₀ L s.heap m) (X₀ : (hd.heap_39 w.params).In h₀) (N : News h₀ L s.heap news) (hv : (vw, viewO "dict_items" d) ∈ news) (hp : (d, cdObj dx es n) ∈ news) (hE : EK w es c) (hc : c.length ≤ 5) (h : RowsQ Q h₀ L m news c s) :
    wpAny (model PP w) A (call (.type "list") [.ref vw]) Q E s :=
  ln_listV hh F N hv hp rfl hE hc h
theorem ln_listD (hh : A.handled = none) (F : Fr h₀ L s.heap m) (N : News h₀ L s.heap news) (hv : (vw, viewO "dict_items" d) ∈ news) (hp : (d, dictOf es n) ∈ news) (hE : EK w es c) (hn : (c.map (·.1)).Nodup) (hc : c.length ≤ 5) (h : RowsQ Q h₀ L m news c s) :
    wpAny (model PP w) A (call (.type "list") [.ref vw]) Q E s :=
  ln_listV hh F N hv hp rfl hE hc h
end
end Mine
end
section
open PySem PySem.W PyProof.Rows PySem.Calls
set_option maxRecDepth 100000
set_option maxHeartbeats 8000000
theorem Mine.walkResetS31 : True := by w_top off; trivial
namespace Mine
local macro_rules | `(tactic| k_ne) => `(tactic| (refine neN ?_; (try dsimp only); first | with_reducible assumption | with_reducible exact Ne.symm (by assumption) | with_reducible exact Nat.ne_of_lt (by assumption) | with_reducible exact Nat.ne_of_gt (by assumption)))
local macro_rules | `(tactic| k_in) => `(tactic| first | with_reducible assumption | with_reducible exact Frag.In.keeps (by assumption) (Fr.keep (by assumption)))
local macro_rules | `(tactic| walk_at "callWith ref") => `(tactic| (k_here; k_dflt (first
  | ((with_reducible show wpAny _ _ (callWith _ _ _ (backTo _ (starEach (_ :: _) _)) _) _ _ _); refine' callWith_K ?k1 ?k2 ?_; (case k1 => k_asm); (case k2 => k_is); k_whole)
  | ((with_reducible show wpAny _ _ (callWith _ _ _ (backTo _ (starEach [] _)) _) _ _ _); refine' callWith_K0 ?k1 ?k2 ?_; (case k1 => k_in); (case k2 => k_is); k_whole))))
local macro_rules | `(tactic| walk_at "callWith") => `(tactic| (k_here; (with_reducible show wpAny _ _ (callWith _ (Value.builtin _) (_ :: _) (backTo _ (starEach (_ :: _) _)) []) _ _ _); k_dflt (refine PyProof.Rows.callWith_method1 ?_)))
local macro_rules | `(tactic| walk_at "eval Name") => `(tactic| (k_here; (fail_if_success (with_reducible show wpAny _ _ (eval (Expr.Name _ _) (compEnvC _ _ _ _)) _ _ _)); k_dflt (first
  | (refine' nameX_L ?F ?v ?_ ?a ?b; (case F => k_asm); (case a => rfl); (case b => rfl); (case v => rfl); k_whole)
  | (refine' nameX_C ?N ?c ?m ?d ?_ ?a ?b; (case a => rfl); (case b => rfl); (case N => k_asm); (case c => rfl); (case m => k_mem); (case d => k_asm); k_whole)
  | (refine' nameX_K ?F ?X ?T ?e ?_ ?a ?b; (case F => k_asm); (case X => k_asm); (case T => k_asm); (case a => rfl); (case b => rfl); (case e => k_is); k_whole)
  | (refine' nameX_B ?F ?X ?T ?e ?v ?n ?_ ?a ?b; (case F => k_asm); (case X => k_asm); (case T => k_asm); (case a => rfl); (case b => rfl); (case e => k_is); (case v => boot_fast); (case n => decide); k_whole))))
local macro_rules | `(tactic| k_room) => `(tactic| ((try simp only [depth_mark, depth_under_make, depth_under_kw, depth_in1, depth_deeper, depth_caller]); (try simp only [Around.deeper]); omega))
local macro_rules | `(tactic| k_all) => `(tactic| assumption)
local macro_rules | `(tactic| k_mem) => `(tactic| first | assumption | exact List.Mem.tail _ (by assumption) | exact List.Mem.tail _ (List.Mem.tail _ (by assumption)))
local macro_rules | `(tactic| walk_at "my_units") => `(tactic| ((try simp only [units_in1, PySem.Around.deeper_units, Around.mark_units, units_caller]); (try simp only [Around.deeper]); first | omega | (exact Nat.le_of_ble_eq_true rfl)))
theorem ty_items : typeOf (.builtin "dict.items") = pure (.type "method_descriptor") := PySem.F.type_dict_items
local macro_rules | `(tactic| walk_at "my_sub") => `(tactic| (intro p hp; repeat (first | exact hp | refine List.Mem.tail _ ?_)))
section
local macro_rules | `(tactic| walk_at "getMethod ref") => `(tactic| (k_here; (with_reducible show wpAny _ _ (getMethod (Value.ref _) (Str.ofString "items") _) _ _ _); k_dflt (first
  | refine kd_method PySem.F.slot_dict_items PySem.F.type_dict_items (by k_asm) (by k_mem) ?_
  | (refine' method_told (T := "method_descriptor") ?F ?X ?N ?x ?d ?f ?t ?y ?_; (case F => k_asm); (case X => k_asm); (case N => k_asm); (case x => k_mem); (case d => k_mem); (case f => exact it_find _); (case t => exact Looks.of_pure ty_items); (case y => decide)))))
local macro_rules | `(tactic| walk_at "call builtin:dict.items") => `(tactic| (k_here; (with_reducible show wpAny _ _ (call (Value.builtin "dict.items") [Value.ref _]) _ _ _); k_dflt (first
  | (refine' kd_items ?F ?N ?p ?s ?_; (case F => k_asm); (case N => k_asm); (case p => k_mem); (case s => assumption))
  | (refine' kt_items ?F ?X ?N ?p ?s ?_; (case F => k_asm); (case X => k_asm); (case N => k_asm); (case p => k_mem); (case s => assumption))); intro D' h' F' N' l1; (try k_lt l1)))
local macro_rules | `(tactic| walk_at "call type:dict") => `(tactic| (k_here; (with_reducible show wpAny _ _ (call (Value.type "dict") [Value.ref _]) _ _ _); k_dflt (first
  | (refine' ln_dictV ?hh ?F ?X ?N ?b ?v ?p (.inl ⟨_, rfl⟩) ?E ?n ?z ?_; (case hh => exact rfl); (case F => k_asm); (case X => k_asm); (case N => k_asm); (case b => exact Top.nolimit (by k_asm)); (case v => k_mem); (case p => k_mem); (case E => assumption); (case n => assumption); (case z => assumption))
  | (refine' ln_dictV ?hh ?F ?X ?N ?b ?v ?p (.inr rfl) ?E ?n ?z ?_; (case hh => exact rfl); (case F => k_asm); (case X => k_asm); (case N => k_asm); (case b => exact Top.nolimit (by k_asm)); (case v => k_mem); (case p => k_mem); (case E => assumption); (case n => assumption); (case z => assumption))); intro D' h' tk' es' n' F' N' l1 hs' hE'; (replace l1 := allNe_of l1; simp only [AllNe, and_true] at l1)))
local macro_rules | `(tactic| walk_at "compareOp Eq ref ref") => `(tactic| (k_here; (with_reducible show wpAny _ _ (compareOp CmpOp.Eq (Value.ref _) (Value.ref _)) _ _ _); k_dflt (refine' ln_dict_eq ?N ?a1 ?a2 ?a3 ?a4 ?a5 ?a6 ?a7 ?a8 ?a9 ?b1 ?_; (case N => k_asm); (case a1 => k_mem); (case a2 => k_mem); (case a3 => assumption); (case a4 => assumption); (case a5 => assumption); (case a6 => assumption); (case a7 => assumption); (case a8 => assumption); (case a9 => assumption); (case b1 => walk_at "my_units"))))

theorem c_eq {w : World} {A₀ : Around} {base h₀ : Heap} {outer : List Env} {env : Env} {d u : Nat} {gs : Option (List Code)} {L : Addr} {m mg mb : Str → Option Value} {s : Shared} {p : Program} {loose : List Str} {mean : ExcName → Option Value}
    {told other dx : Addr} {es es2 : List DictEntry} {n n2 : Nat} {c c2 : Ents} {r : Bool} {news : List (Addr × Obj)} {Q : Value → Shared → Prop} {E : Value → Shared → Prop}
    (hcr : d + 40 < recursionLimit) (hcu : u + 200 < cLine)
    (B : Below A₀ base outer h₀) (F : Fr h₀ L s.heap m) (X₀ : (hd.heap_39 w.params).In h₀) (N : News h₀ L s.heap news) (T : Top p loose mean mg mb h₀)
    (hf : env.frame = some L) (hk : env.scope.kind = .function) (ht : (told, cdObj dx es n) ∈ news) (hdx : (dx, dictOf [] 0) ∈ news) (ho : (other, dictOf es2 n2) ∈ news) (hE : EK w es c) (hE2 : EK w es2 c2) (hn : (c.map (·.1)).Nodup) (hn2 : (c2.map (·.1)).Nodup) (hz : c.length ≤ 1000) (hz2 : c2.length ≤ 1000)
    (hxs : (told == sysModules) = false) (hos : (other == sysModules) = false) (hne : @Ne Nat told other) (hD : DEq c c2 r)
    (hQ : ∀ h' tk, Fr h₀ L h' m → News h₀ L h' news → Q (.bool r) { s with heap := h', toks := tk }) :
    wpAny (model PP w) ⟨none, d, some (env :: outer), gs, u⟩ (call (.ref 139) [.ref told, .ref other]) Q E s := by
  have _fill : PySem.Challenge.rw_bl0005_01 = PySem.Challenge.rw_bl0005_01 ∧ hd.heap_39 = hd.heap_39 := by k_fill; exact ⟨rfl, rfl⟩
  refine wpAny_call ?_
  refine' code_def B F X₀ N T rfl hf hk ?k6 ?k7 ?k8 ?k9 ?kB ?_ ?c2 ?c3 ?c4 ?c5
  (case k6 => k_is)
  (case k7 => k_is)
  (case k8 => k_room)
  (case k9 => first | exact BindsTo.of_eq rfl | exact binds_K (X₀.keeps F.keep) rfl (by k_is) rfl rfl rfl)
  (case kB => exact locs rfl)
  (case c2 => exact rfl)
  (case c3 => exact rfl)
  (case c4 => exact rfl)
  (case c5 => decide)
  intro g' L' h' FG' F' N' B' X' T'
  (try dsimp only)
  (try k_lift B')
  k_steps
  all_goals exact hQ _ _ (by assumption) (news_sub (by assumption) (by walk_at "my_sub"))

end

theorem g_eq {w : World} {A₀ : Around} {base h₀ : Heap} {outer : List Env} {env : Env} {A : Around} {L : Addr} {m mg mb : Str → Option Value} {s : Shared} {p : Program} {loose : List Str} {mean : ExcName → Option Value}
    {told other dx : Addr} {es es2 : List DictEntry} {n n2 : Nat} {c c2 : Ents} {r : Bool} {news : List (Addr × Obj)} {Q : Value → Shared → Prop} {E : Value → Shared → Prop}
    (hA0 : A.handled = none) (hA : A.frames = some (env :: outer)) (hcr : A.depth + 40 < recursionLimit) (hcu : A.units + 200 < cLine)
    (B : Below A₀ base outer h₀) (F : Fr h₀ L s.heap m) (X₀ : (hd.heap_39 w.params).In h₀) (N : News h₀ L s.heap news) (T : Top p loose mean mg mb h₀)
    (hf : env.frame = some L) (hk : env.scope.kind = .function) (ht : (told, cdObj dx es n) ∈ news) (hdx : (dx, dictOf [] 0) ∈ news) (ho : (other, dictOf es2 n2) ∈ news) (hE : EK w es c) (hE2 : EK w es2 c2) (hn : (c.map (·.1)).Nodup) (hn2 : (c2.map (·.1)).Nodup) (hz : c.length ≤ 1000) (hz2 : c2.length ≤ 1000)
    (hxs : (told == sysModules) = false) (hos : (other == sysModules) = false) (hne : @Ne Nat told other) (hD : DEq c c2 r)
    (hQ : ∀ h' tk, Fr h₀ L h' m → News h₀ L h' news → Q (.bool r) { s with heap := h', toks := tk }) :
    wpAny (model PP w) A (call (.ref 139) [.ref told, .ref other]) Q E s := by
  obtain ⟨hd', d, fr, gs, u⟩ := A
  dsimp only at hA0 hA hcr hcu
  subst hA0 hA
  exact c_eq hcr hcu B F X₀ N T hf hk ht hdx ho hE hE2 hn hn2 hz hz2 hxs hos hne hD hQ

theorem nf_dict (w : World) : notFirst (hd.heap_39 w.params) 163 (.type "dict") = true := by kernel_rfl
theorem find_eq (w : World) : findIn (hd.heap_39 w.params) (.ref 163) "__eq__" = some (some (.ref 139)) := by kernel_rfl
theorem find_ne (w : World) : findIn (hd.heap_39 w.params) (.ref 163) "__ne__" = some (some (.ref 146)) := by kernel_rfl
theorem fn_eq (w : World) : isFn (hd.heap_39 w.params) (.ref 139) = true := by kernel_rfl
theorem fn_ne (w : World) : isFn (hd.heap_39 w.params) (.ref 146) = true := by kernel_rfl
theorem cmp_eq {w : World} {A : Around} {E : Value → Shared → Prop} {s : Shared} {h₀ : Heap} {L : Addr} {m : Str → Option Value} {news : List (Addr × Obj)} {told other dx : Addr} {es es2 : List DictEntry} {n n2 : Nat} {Q : Value → Shared → Prop}
    (hu : A.units < cLine) (F : Fr h₀ L s.heap m) (X₀ : (hd.heap_39 w.params).In h₀) (N : News h₀ L s.heap news) (ht : (told, cdObj dx es n) ∈ news) (hdx : (dx, dictOf [] 0) ∈ news) (ho : (other, dictOf es2 n2) ∈ news)
    (h : wpAny (model PP w) A (call (.ref 139) [.ref told, .ref other]) (PySem.W.CmpBack Q) E s) : wpAny (model PP w) A (compareOp .Eq (.ref told) (.ref other)) Q E s :=
  cmp_ofEq (cmp_K (op := .Eq) hu F X₀ (inst_cd N ht hdx) ((Looks.ld (N _ ho).1).andThen .now) (nf_dict w) (find_eq w) (fn_eq w) h)
theorem cmp_ne {w : World} {A : Around} {E : Value → Shared → Prop} {s : Shared} {h₀ : Heap} {L : Addr} {m : Str → Option Value} {news : List (Addr × Obj)} {told other dx : Addr} {es es2 : List DictEntry} {n n2 : Nat} {Q : Value → Shared → Prop}
    (hu : A.units < cLine) (F : Fr h₀ L s.heap m) (X₀ : (hd.heap_39 w.params).In h₀) (N : News h₀ L s.heap news) (ht : (told, cdObj dx es n) ∈ news) (hdx : (dx, dictOf [] 0) ∈ news) (ho : (other, dictOf es2 n2) ∈ news)
    (h : wpAny (model PP w) A (call (.ref 146) [.ref told, .ref other]) (PySem.W.CmpBack Q) E s) : wpAny (model PP w) A (compareOp .NotEq (.ref told) (.ref other)) Q E s :=
  cmp_ofNotEq (cmp_K (op := .NotEq) hu F X₀ (inst_cd N ht hdx) ((Looks.ld (N _ ho).1).andThen .now) (nf_dict w) (find_ne w) (fn_ne w) h)
section
local macro_rules | `(tactic| walk_at "compareOp Eq ref ref") => `(tactic| (k_here; (with_reducible show wpAny _ _ (compareOp CmpOp.Eq (Value.ref _) (Value.ref _)) _ _ _); k_dflt (refine' cmp_eq ?hu ?F ?X ?N ?a1 ?a2 ?a3 ?_; (case hu => walk_at "my_units"); (case F => k_asm); (case X => k_asm); (case N => k_asm); (case a1 => k_mem); (case a2 => k_mem); (case a3 => k_mem))))
local macro_rules | `(tactic| walk_at "CmpBack") => `(tactic| (dsimp only [PySem.W.CmpBack]))
local macro_rules | `(tactic| walk_at "call ref") => `(tactic| (k_here; k_dflt (refine' g_eq ?hA0 ?hA ?hcr ?hcu ?B ?F ?X ?N ?T ?hf ?hk ?ht ?hdx ?ho ?hE ?hE2 ?hn ?hn2 ?hz ?hz2 ?hxs ?hos ?hne ?hD ?_; (case hA0 => exact rfl); (case hA => exact rfl); (case hcr => k_room); (case hcu => walk_at "my_units"); (case B => k_asm); (case F => k_asm); (case X => k_asm); (case N => k_asm); (case T => k_asm); (case hf => exact rfl); (case hk => exact rfl); (case ht => k_mem); (case hdx => k_mem); (case ho => k_mem); (case hE => assumption); (case hE2 => assumption); (case hn => assumption); (case hn2 => assumption); (case hz => assumption); (case hz2 => assumption); (case hxs => assumption); (case hos => assumption); (case hne => first | assumption | k_ne); (case hD => assumption); intro h' tk' F' N')))

theorem c_ne {w : World} {A₀ : Around} {base h₀ : Heap} {outer : List Env} {env : Env} {d u : Nat} {gs : Option (List Code)} {L : Addr} {m mg mb : Str → Option Value} {s : Shared} {p : Program} {loose : List Str} {mean : ExcName → Option Value}
    {told other dx : Addr} {es es2 : List DictEntry} {n n2 : Nat} {c c2 : Ents} {r : Bool} {news : List (Addr × Obj)} {Q : Value → Shared → Prop} {E : Value → Shared → Prop}
    (hcr : d + 80 < recursionLimit) (hcu : u + 300 < cLine)
    (B : Below A₀ base outer h₀) (F : Fr h₀ L s.heap m) (X₀ : (hd.heap_39 w.params).In h₀) (N : News h₀ L s.heap news) (T : Top p loose mean mg mb h₀)
    (hf : env.frame = some L) (hk : env.scope.kind = .function) (ht : (told, cdObj dx es n) ∈ news) (hdx : (dx, dictOf [] 0) ∈ news) (ho : (other, dictOf es2 n2) ∈ news) (hE : EK w es c) (hE2 : EK w es2 c2) (hn : (c.map (·.1)).Nodup) (hn2 : (c2.map (·.1)).Nodup) (hz : c.length ≤ 1000) (hz2 : c2.length ≤ 1000)
    (hxs : (told == sysModules) = false) (hos : (other == sysModules) = false) (hne : @Ne Nat told other) (hD : DEq c c2 r)
    (hQ : ∀ h' tk, Fr h₀ L h' m → News h₀ L h' news → Q (.bool (!r)) { s with heap := h', toks := tk }) :
    wpAny (model PP w) ⟨none, d, some (env :: outer), gs, u⟩ (call (.ref 146) [.ref told, .ref other]) Q E s := by
  have _fill : PySem.Challenge.rw_bl0005_01 = PySem.Challenge.rw_bl0005_01 ∧ hd.heap_39 = hd.heap_39 := by k_fill; exact ⟨rfl, rfl⟩
  refine wpAny_call ?_
  refine' code_def B F X₀ N T rfl hf hk ?k6 ?k7 ?k8 ?k9 ?kB ?_ ?c2 ?c3 ?c4 ?c5
  (case k6 => k_is)
  (case k7 => k_is)
  (case k8 => k_room)
  (case k9 => first | exact BindsTo.of_eq rfl | exact binds_K (X₀.keeps F.keep) rfl (by k_is) rfl rfl rfl)
  (case kB => exact locs rfl)
  (case c2 => exact rfl)
  (case c3 => exact rfl)
  (case c4 => exact rfl)
  (case c5 => decide)
  intro g' L' h' FG' F' N' B' X' T'
  (try dsimp only)
  (try k_lift B')
  k_steps
  all_goals exact hQ _ _ (by assumption) (news_sub (by assumption) (by walk_at "my_sub"))

end

theorem g_ne {w : World} {A₀ : Around} {base h₀ : Heap} {outer : List Env} {env : Env} {A : Around} {L : Addr} {m mg mb : Str → Option Value} {s : Shared} {p : Program} {loose : List Str} {mean : ExcName → Option Value}
    {told other dx : Addr} {es es2 : List DictEntry} {n n2 : Nat} {c c2 : Ents} {r : Bool} {news : List (Addr × Obj)} {Q : Value → Shared → Prop} {E : Value → Shared → Prop}
    (hA0 : A.handled = none) (hA : A.frames = some (env :: outer)) (hcr : A.depth + 80 < recursionLimit) (hcu : A.units + 300 < cLine)
    (B : Below A₀ base outer h₀) (F : Fr h₀ L s.heap m) (X₀ : (hd.heap_39 w.params).In h₀) (N : News h₀ L s.heap news) (T : Top p loose mean mg mb h₀)
    (hf : env.frame = some L) (hk : env.scope.kind = .function) (ht : (told, cdObj dx es n) ∈ news) (hdx : (dx, dictOf [] 0) ∈ news) (ho : (other, dictOf es2 n2) ∈ news) (hE : EK w es c) (hE2 : EK w es2 c2) (hn : (c.map (·.1)).Nodup) (hn2 : (c2.map (·.1)).Nodup) (hz : c.length ≤ 1000) (hz2 : c2.length ≤ 1000)
    (hxs : (told == sysModules) = false) (hos : (other == sysModules) = false) (hne : @Ne Nat told other) (hD : DEq c c2 r)
    (hQ : ∀ h' tk, Fr h₀ L h' m → News h₀ L h' news → Q (.bool (!r)) { s with heap := h', toks := tk }) :
    wpAny (model PP w) A (call (.ref 146) [.ref told, .ref other]) Q E s := by
  obtain ⟨hd', d, fr, gs, u⟩ := A
  dsimp only at hA0 hA hcr hcu
  subst hA0 hA
  exact c_ne hcr hcu B F X₀ N T hf hk ht hdx ho hE hE2 hn hn2 hz hz2 hxs hos hne hD hQ
end Mine
end
section
open PySem PySem.W PyProof.Rows PySem.Calls PySem.SeqAt
set_option maxRecDepth 100000
set_option maxHeartbeats 8000000
theorem Mine.walkResetS32 : True := by w_top off; trivial
namespace Mine
theorem ix_append_none {a b : Ents} {u : Str} (h1 : ix a u = none) (h2 : u ∉ b.map (·.1)) : ix (a ++ b) u = none := by
  unfold ix at h1 ⊢
  rw [List.findIdx?_eq_none_iff] at h1 ⊢
  intro p hp
  rcases List.mem_append.mp hp with hp | hp
  · exact h1 p hp
  · simp only [decide_eq_false_iff_not]
    intro e
    exact h2 (by rw [← e]; exact List.mem_map_of_mem (f := (·.1)) hp)
theorem ix_none_of {a : Ents} {u : Str} (h : u ∉ a.map (·.1)) : ix a u = none := by
  have := ix_append_none (a := []) (b := a) (u := u) rfl h
  simpa using this
section
variable {w : World} {A : Around} {E : Value → Shared → Prop} {hp : Heap} {g : Array GenState} {dr : Drawn} {tk : Nat} {os : OsState} {D a : Addr} {esD es : List DictEntry} {nD n : Nat} {cD c : Ents}
theorem put_new {Q : Unit → Shared → Prop} {e : DictEntry} {p : Str × Int} (hD : hp.get? D = some (dictOf esD nD)) (ED : EK w esD cD) (he : EKp w e p) (hn : ix cD p.1 = none) (hsz : cD.length ≤ 1000)
    (q : ∀ h' es' n', h'.get? D = some (dictOf es' n') → EK w es' (cD ++ [p]) → Heap.SameBut D hp h' → Q () ⟨h', g, dr, tk, os⟩) : wpAny (model PP w) A (dictPut D e.hash e.key e.val) Q E ⟨hp, g, dr, tk, os⟩ := by
  obtain ⟨hs, ky, vl⟩ := e
  obtain ⟨⟨t, hk⟩, hh, u, hv⟩ := he
  dsimp only at hk hh hv ⊢
  subst hk hh hv
  have hz : esD.toArray.size ≤ sizeLine := by rw [List.size_toArray, ED.length, sizeLine_eq]; omega
  unfold dictPut
  refine wpAny_bind (d_find (T := .type "dict") (dd := none) (s := ⟨hp, g, dr, tk, os⟩) hD ED ?_)
  rw [hn]
  refine wpAny_updateDictKeys (hz := hz) (s := ⟨hp, g, dr, tk, os⟩) hD rfl (q _ (esD ++ [⟨hashStr w p.1, .str p.1 t, .int p.2 u⟩]) (nD + 1) ?_ (ED.push ⟨⟨t, rfl⟩, rfl, u, rfl⟩) (Heap.SameBut.update ..))
  rw [Heap.get?_update_self _ hD (Obj.isFreed_of_dict (Obj.data_mapDictKeys rfl _))]
  simp [Obj.mapDictKeys, dictOf]
theorem merge_EK {Q : Unit → Shared → Prop} (hDa : a ≠ D) (has : (a == sysModules) = false) (hD : hp.get? D = some (dictOf esD nD)) (ha : hp.get? a = some (dictOf es n)) (ED : EK w esD cD) (E1 : EK w es c) (hn : ((cD ++ c).map (·.1)).Nodup) (hsz : cD.length + c.length ≤ 1000)
    (q : ∀ h' es' n', h'.get? D = some (dictOf es' n') → EK w es' (cD ++ c) → Heap.SameBut D hp h' → Q () ⟨h', g, dr, tk, os⟩) : wpAny (model PP w) A (mergeMapping D (.ref a) false) Q E ⟨hp, g, dr, tk, os⟩ := by
  have ty : Shared.TypeIs ⟨hp, g, dr, tk, os⟩ (.ref a) "dict" := ⟨_, ha, rfl⟩
  unfold mergeMapping
  refine wpAny_bind (wpAny_isInstance ty isSubtype_dict_dict ?_)
  rw [if_pos rfl]
  refine wpAny_bind (wpAny_specialOf ty F.slot_dict_iter.lookup (wpAny_bind (wpAny_pure ?_)))
  simp only [beq_self_eq_true]
  rw [if_neg (by rw [has]; exact Bool.false_ne_true)]
  refine wpAny_bind (wpAny_dictEntries hD rfl ?_)
  have keysStr : ∀ e ∈ es, ∃ k t, e.key = .str k t := fun e he => by
    obtain ⟨p, _, ⟨t, hk⟩, _⟩ := E1.mem e he
    exact ⟨_, t, hk⟩
  by_cases hemp : esD.toArray.isEmpty = true
  · rw [if_pos hemp]
    refine wpAny_bind (wpAny_dictEntries ha rfl (wpAny_bind ?_))
    rw [← Array.forIn_toList]
    refine wpAny_forIn_list _ (fun rest _ s' => s' = ⟨hp, g, dr, tk, os⟩ ∧ ∀ e ∈ rest, ∃ k t, e.key = .str k t) _ ?_ ?_ _ _ ⟨rfl, by simpa using keysStr⟩
    · rintro x rest ⟨⟩ s' ⟨rfl, hk⟩
      obtain ⟨k, t, e⟩ := hk x (.head _)
      rw [e]
      exact wpAny_pure ⟨rfl, fun e he => hk e (.tail _ he)⟩
    · rintro ⟨⟩ s' ⟨rfl, _⟩
      refine wpAny_bind (wpAny_dictEntries ha rfl (wpAny_bind (wpAny_dictEpoch ha rfl ?_)))
      refine wpAny_bind (wpAny_forIn_list _ (fun rest _ s' => ∃ i h' es' n', rest = List.range' i (es.length - i) ∧ i ≤ es.length ∧ s' = ⟨h', g, dr, tk, os⟩ ∧ h'.get? D = some (dictOf es' n') ∧ EK w es' (cD ++ c.take i) ∧ Heap.SameBut D hp h') _ ?_ ?_ _ _
        ⟨0, hp, esD, nD, by rw [List.size_toArray, List.range_eq_range']; rfl, Nat.zero_le _, rfl, hD, by simpa using ED, Heap.SameBut.refl _ _⟩)
      · rintro x rest ⟨⟩ s' ⟨i, h', es', n', hr, hi, rfl, hD', E', hs'⟩
        have hlt : i < es.length := by
          rcases Nat.lt_or_ge i es.length with h | h
          · exact h
          · rw [Nat.sub_eq_zero_of_le h] at hr; simp at hr
        obtain ⟨rfl, hrest⟩ : x = i ∧ rest = List.range' (i + 1) (es.length - (i + 1)) := by
          rw [show es.length - i = (es.length - (i + 1)) + 1 by omega, List.range'_succ] at hr
          injection hr with h1 h2
          exact ⟨h1, h2⟩
        have ha' : h'.get? a = some (dictOf es n) := hs'.extBut _ _ hDa ha
        obtain ⟨p, hp'⟩ : ∃ p, c[x]? = some p := ⟨c[x]'(by rw [← E1.length]; exact hlt), List.getElem?_eq_getElem _⟩
        obtain ⟨e, he, hek⟩ := E1.at hp'
        have hc : x < c.length := by rw [← E1.length]; exact hlt
        have hcx : c[x] = p := by rw [List.getElem?_eq_getElem hc] at hp'; exact Option.some.inj hp'
        refine wpAny_bind (wpAny_dictEntries ha' rfl ?_)
        rw [show es.toArray[x]? = some e by simpa using he]
        have nodup1 : ((cD ++ c.take (x + 1)).map (·.1)).Nodup := hn.sublist (List.Sublist.map _ (List.Sublist.append (List.Sublist.refl _) (List.take_sublist _ _)))
        have hnew : ix (cD ++ c.take x) p.1 = none := by
          refine ix_none_of fun hm => ?_
          rw [List.take_add_one, hp', ← List.append_assoc, List.map_append] at nodup1
          exact (List.nodup_append.mp nodup1).2.2 _ hm p.1 (by simp) rfl
        refine wpAny_bind (wpAny_holding (put_new hD' E' hek hnew (by simp; omega) fun h2 es2 n2 hD2 E2 hs2 => ?_))
        refine wpAny_bind (wpAny_dictEpoch (hs2.extBut _ _ hDa ha') rfl ?_)
        rw [if_neg (by simp)]
        refine wpAny_pure ⟨x + 1, h2, es2, n2, hrest, hlt, rfl, hD2, ?_, hs'.trans hs2⟩
        rw [List.take_add_one, hp', ← List.append_assoc]
        exact E2
      · rintro ⟨⟩ s' ⟨i, h', es', n', hr, hi, rfl, hD', E', hs'⟩
        have : i = es.length := by
          rcases Nat.lt_or_ge i es.length with h | h
          · rw [show es.length - i = (es.length - (i + 1)) + 1 by omega, List.range'_succ] at hr; exact nomatch hr
          · omega
        subst this
        rw [E1.length, List.take_length] at E'
        exact wpAny_pure (q _ _ _ hD' E' hs')
  · rw [if_neg hemp]
    refine wpAny_bind (wpAny_dictEntries ha rfl (wpAny_bind (wpAny_dictEpoch ha rfl ?_)))
    refine wpAny_bind (wpAny_forIn_list _ (fun rest _ s' => ∃ i h' es' n', rest = List.range' i (es.length - i) ∧ i ≤ es.length ∧ s' = ⟨h', g, dr, tk, os⟩ ∧ h'.get? D = some (dictOf es' n') ∧ EK w es' (cD ++ c.take i) ∧ Heap.SameBut D hp h') _ ?_ ?_ _ _
      ⟨0, hp, esD, nD, by rw [List.size_toArray, List.range_eq_range']; rfl, Nat.zero_le _, rfl, hD, by simpa using ED, Heap.SameBut.refl _ _⟩)
    · rintro x rest ⟨⟩ s' ⟨i, h', es', n', hr, hi, rfl, hD', E', hs'⟩
      have hlt : i < es.length := by
        rcases Nat.lt_or_ge i es.length with h | h
        · exact h
        · rw [Nat.sub_eq_zero_of_le h] at hr; simp at hr
      obtain ⟨rfl, hrest⟩ : x = i ∧ rest = List.range' (i + 1) (es.length - (i + 1)) := by
        rw [show es.length - i = (es.length - (i + 1)) + 1 by omega, List.range'_succ] at hr
        injection hr with h1 h2
        exact ⟨h1, h2⟩
      have ha' : h'.get? a = some (dictOf es n) := hs'.extBut _ _ hDa ha
      obtain ⟨p, hp'⟩ : ∃ p, c[x]? = some p := ⟨c[x]'(by rw [← E1.length]; exact hlt), List.getElem?_eq_getElem _⟩
      obtain ⟨e, he, hek⟩ := E1.at hp'
      have hc : x < c.length := by rw [← E1.length]; exact hlt
      have hcx : c[x] = p := by rw [List.getElem?_eq_getElem hc] at hp'; exact Option.some.inj hp'
      refine wpAny_bind (wpAny_dictEntries ha' rfl ?_)
      rw [show es.toArray[x]? = some e by simpa using he]
      have nodup1 : ((cD ++ c.take (x + 1)).map (·.1)).Nodup := hn.sublist (List.Sublist.map _ (List.Sublist.append (List.Sublist.refl _) (List.take_sublist _ _)))
      have hnew : ix (cD ++ c.take x) p.1 = none := by
        refine ix_none_of fun hm => ?_
        rw [List.take_add_one, hp', ← List.append_assoc, List.map_append] at nodup1
        exact (List.nodup_append.mp nodup1).2.2 _ hm p.1 (by simp) rfl
      refine wpAny_bind (wpAny_holding (put_new hD' E' hek hnew (by simp; omega) fun h2 es2 n2 hD2 E2 hs2 => ?_))
      refine wpAny_bind (wpAny_dictEpoch (hs2.extBut _ _ hDa ha') rfl ?_)
      rw [if_neg (by simp)]
      refine wpAny_pure ⟨x + 1, h2, es2, n2, hrest, hlt, rfl, hD2, ?_, hs'.trans hs2⟩
      rw [List.take_add_one, hp', ← List.append_assoc]
      exact E2
    · rintro ⟨⟩ s' ⟨i, h', es', n', hr, hi, rfl, hD', E', hs'⟩
      have : i = es.length := by
        rcases Nat.lt_or_ge i es.length with h | h
        · rw [show es.length - i = (es.length - (i + 1)) + 1 by omega, List.range'_succ] at hr; exact nomatch hr
        · omega
      subst this
      rw [E1.length, List.take_length] at E'
      exact wpAny_pure (q _ _ _ hD' E' hs')
end
section
variable {w : World} {A : Around} {E : Value → Shared → Prop} {s : Shared} {env : Env} {Q : Value → Shared → Prop}
abbrev dPush (h : Heap) : Heap := h.push { cls := .type "dict", data := .dict #[] }
def More2 (w : World) (A : Around) (D D2 : Addr) (kv : Value) (Q : Value → Shared → Prop) (wv : Value) (s : Shared) : Prop :=
  wpAny (model PP w) A (dictSet D2 kv wv) (fun _ s₅ => wpAny (model PP w) A (mergeMapping D (.ref D2) false) (fun _ s₆ => Q (.ref D) s₆) (fun _ _ => False) s₅) (fun _ _ => False) s
def More1 (w : World) (A : Around) (E : Value → Shared → Prop) (env : Env) (kE wE : PySem.Expr) (D : Addr) (Q : Value → Shared → Prop) (v : Value) (s : Shared) : Prop :=
  wpAny (model PP w) A (mergeMapping D v false) (fun _ s₂ => wpAny (model PP w) A (eval kE env) (fun kv s₃ => wpAny (model PP w) A (eval wE env) (More2 w A D s₂.heap.objs.size kv Q) E s₃) E { s₂ with heap := dPush s₂.heap }) (fun _ _ => False) s
theorem dict_more {vE kE wE : PySem.Expr} {pos : Pos} (h : wpAny (model PP w) A (eval vE env) (More1 w A E env kE wE s.heap.objs.size Q) E { s with heap := dPush s.heap }) :
    wpAny (model PP w) A (eval (.Dict [none, some kE] [vE, wE] pos) env) Q E s := by
  rw [arm_eval_Dict]
  refine wpAny_bind (wpAny_standAt ?_)
  show wpAny _ _ (dictDisplay [(none, do let x ← eval vE env; standAt pos; pure x), (some (eval kE env), do let x ← eval wE env; standAt pos; pure x)]) _ _ _
  unfold dictDisplay
  dsimp only
  rw [List.forIn_cons]
  refine wpAny_bind (wpAny_bind ?_)
  simp only [List.isEmpty_nil, if_true]
  refine wpAny_bind (wpAny_pure ?_)
  dsimp only
  refine wpAny_bind (wpAny_alloc (wpAny_bind (wpAny_holding (wpAny_bind (wpAny_mono h (fun v s₁ h₁ => ?_) fun _ _ x => x)))))
  refine wpAny_bind (wpAny_standAt (wpAny_pure (wpAny_bind (wpAny_onRaise (wpAny_tryCatch (wpAny_onRaise (wpAny_holding (wpAny_mono h₁ (fun _ s₂ h₂ => ?_) fun _ _ x => x.elim))))))))
  refine wpAny_pure ?_
  dsimp only
  rw [List.forIn_cons]
  dsimp only
  simp only [List.nil_append, List.length_singleton, show ((1 : Nat) == 17) = false from rfl, Bool.false_eq_true, if_false]
  refine wpAny_bind (wpAny_pure ?_)
  dsimp only
  rw [List.forIn_nil]
  refine wpAny_pure ?_
  dsimp only
  simp only [List.isEmpty_cons, Bool.false_eq_true, if_false]
  refine wpAny_bind (wpAny_bind (wpAny_holding ?_))
  unfold subDict
  refine wpAny_bind (wpAny_alloc (wpAny_bind (wpAny_holding ?_)))
  rw [if_pos (show [(eval kE env, (do let x ← eval wE env; standAt pos; pure x : Sem Value))].length ≤ 15 from by simp)]
  simp only [evalPairs]
  refine wpAny_bind (wpAny_bind (wpAny_mono h₂ (fun kv s₃ h₃ => wpAny_bind (wpAny_holding (wpAny_bind (wpAny_mono h₃ (fun wv s₄ h₄ => ?_) fun _ _ x => x)))) fun _ _ x => x))
  refine wpAny_bind (wpAny_standAt (wpAny_pure (wpAny_bind (wpAny_holding (wpAny_pure (wpAny_pure ?_))))))
  refine wpAny_holding (wpAny_bind ?_)
  rw [List.forIn_cons]
  refine wpAny_bind (wpAny_bind (wpAny_mono h₄ (fun _ s₅ h₅ => ?_) fun _ _ x => x.elim))
  refine wpAny_pure ?_
  dsimp only
  rw [List.forIn_nil]
  refine wpAny_pure (wpAny_pure (wpAny_pure (wpAny_bind (wpAny_onRaise (wpAny_holding (wpAny_mono h₅ (fun _ s₆ h₆ => ?_) fun _ _ x => x.elim))))))
  exact wpAny_pure (wpAny_pure h₆)
theorem more2_intro {h₀ : Heap} {L : Addr} {m : Str → Option Value} {news : List (Addr × Obj)} {D D2 : Addr} {es : List DictEntry} {n : Nat} {c : Ents} {u : Str} {t tv : Tok} {v : Int} (F : Fr h₀ L s.heap m) (N : News h₀ L s.heap ((D2, dictOf [] 0) :: (D, dictOf es n) :: news)) (hne : @Ne Nat D2 D) (hs : (D2 == sysModules) = false)
    (h1 : ∀ p ∈ news, p.1 ≠ D) (h2' : ∀ p ∈ news, p.1 ≠ D2) (hE : EK w es c) (hu : u ∉ c.map (·.1)) (hn : (c.map (·.1)).Nodup) (hsz : c.length ≤ 100)
    (q : ∀ h' tk es' n', Fr h₀ L h' m → News h₀ L h' ((D, dictOf es' n') :: news) → EK w es' (c ++ [(u, v)]) → Q (.ref D) { s with heap := h', toks := tk }) : More2 w A D D2 (.str u t) Q (.int v tv) s := by
  obtain ⟨hp, g, dr, tk, os⟩ := s
  unfold More2
  have hD := (N (D, dictOf es n) (.tail _ (.head _)))
  have h2 := (N (D2, dictOf [] 0) (.head _))
  refine d_set (T := .type "dict") (dd := none) (es := []) (n := 0) (c := []) (s := ⟨hp, g, dr, tk, os⟩) h2.1 EK.nil (by simp) fun h' es2 n2 hx hE2 hs2 => ?_
  have e2 : EK w es2 [(u, v)] := hE2
  have hD' := hs2.extBut _ _ hne.symm hD.1
  refine merge_EK (w := w) hne hs hD' hx hE e2 ?_ (by simp; omega) fun h3 es3 n3 h3D hE3 hs3 => ?_
  · rw [List.map_append]
    refine List.nodup_append.mpr ⟨hn, by simp, fun a ha b hb e => ?_⟩
    have hb' : b = u := by simpa using hb
    exact hu (by rw [← hb', ← e]; exact ha)
  · refine q h3 _ es3 n3 ((F.change hs2 h2.2.1 h2.2.2).change hs3 hD.2.1 hD.2.2) (fun p hp' => ?_) hE3
    rcases List.mem_cons.mp hp' with rfl | hp'
    · exact ⟨h3D, hD.2⟩
    · exact ⟨hs3.extBut _ _ (h1 p hp') (hs2.extBut _ _ (h2' p hp') (N p (.tail _ (.tail _ hp'))).1), (N p (.tail _ (.tail _ hp'))).2⟩
theorem more1_intro {h₀ : Heap} {L : Addr} {m : Str → Option Value} {news : List (Addr × Obj)} {D a : Addr} {es : List DictEntry} {n : Nat} {c : Ents} {kE wE : PySem.Expr} (F : Fr h₀ L s.heap m) (N : News h₀ L s.heap ((D, dictOf [] 0) :: news)) (hb : h₀.NoLimit) (ma : (a, dictOf es n) ∈ news) (hoff : ∀ p ∈ news, p.1 ≠ D) (hs : (a == sysModules) = false)
    (hE : EK w es c) (hn : (c.map (·.1)).Nodup) (hsz : c.length ≤ 1000)
    (q : ∀ D2 h' es' n', Fr h₀ L h' m → News h₀ L h' ((D2, dictOf [] 0) :: (D, dictOf es' n') :: news) → (∀ p ∈ news, p.1 ≠ D2) → @Ne Nat D2 D → (D2 == sysModules) = false → EK w es' c → wpAny (model PP w) A (eval kE env) (fun kv s₃ => wpAny (model PP w) A (eval wE env) (More2 w A D D2 kv Q) E s₃) E { s with heap := h' }) :
    More1 w A E env kE wE D Q (.ref a) s := by
  obtain ⟨hp, g, dr, tk, os⟩ := s
  unfold More1
  have hD := N (D, dictOf [] 0) (.head _)
  have ha := N (a, dictOf es n) (.tail _ ma)
  refine merge_EK (w := w) (hoff _ ma) hs hD.1 ha.1 EK.nil hE (by simpa using hn) (by simpa using hsz) fun h3 es3 n3 h3D hE3 hs3 => ?_
  have F3 := F.change hs3 hD.2.1 hD.2.2
  have N3 : News h₀ L h3 ((D, dictOf es3 n3) :: news) := fun p hp' => by
    rcases List.mem_cons.mp hp' with rfl | hp'
    · exact ⟨h3D, hD.2⟩
    · exact ⟨hs3.extBut _ _ (hoff p hp') (N p (.tail _ hp')).1, (N p (.tail _ hp')).2⟩
  refine q h3.objs.size _ es3 n3 (F3.push _) (News.push F3 N3 _) (fun p hp' => Nat.ne_of_lt (Heap.lt_size (N3 p (.tail _ hp')).1)) (Nat.ne_of_gt (Heap.lt_size h3D)) (F3.notModules (modules_low hb)) hE3
end
end Mine
end
section
open PySem PySem.W PyProof.Rows PySem.Calls PySem.SeqAt
set_option maxRecDepth 100000
set_option maxHeartbeats 8000000
theorem Mine.walkResetS33 : True := by w_top off; trivial
namespace Mine
/-- what stands between the turns: both dicts hold the same entries, in order; the script's state -/
structure LInv (w : World) (x dx due st sl : Addr) (len : Nat) (rest : List (Addr × Obj)) (told : Str) (m : Str → Option Value) (nx : List (Addr × Obj)) : Prop where
  st : ∃ es n es2 n2 c i t ti tt e1, nx = (due, dictOf es2 n2) :: (x, cdObj dx es n) :: (dx, dictOf [] 0) :: (st, W.listOf #[.ref sl, .int i ti, .int t tt] e1) :: rest ∧ EK w es c ∧ EK w es2 c ∧ GoodC c ∧ 0 ≤ i ∧ i ≤ (len : Int) ∧ m told = some (.ref x)
theorem small_range {r : Int} (h0 : 0 ≤ r) (h1 : r < 9) : Builtin.Range.small 0 (1 + r) 1 = true ∧ Builtin.Range.rangeSize 0 (1 + r) 1 = (((1 + r).toNat : Nat) : Int) := by
  obtain ⟨n, rfl⟩ : ∃ n : Nat, r = n := ⟨r.toNat, by omega⟩
  have : n < 9 := by omega
  have all : ∀ n : Fin 9, Builtin.Range.small 0 (1 + (n.val : Int)) 1 = true ∧ Builtin.Range.rangeSize 0 (1 + (n.val : Int)) 1 = (((1 + (n.val : Int)).toNat : Nat) : Int) := by decide
  exact all ⟨n, this⟩
section
variable {w : World} {A : Around} {E : Value → Shared → Prop} {s : Shared} {env : Env} {h₀ : Heap} {kn tn : Str} {body : List Stmt} {Q : Flow → Shared → Prop} {x dx due st sl r : Addr} {len : Nat} {rest news : List (Addr × Obj)} {m₀ : Str → Option Value}
theorem law_loop {rr i t : Int} {t₀ u₀ v₀ ti tt : Tok} {e1 : Nat} (hh : A.handled = none) (hr : IsRange s.heap r 0 (1 + rr) 1 t₀ u₀ v₀) (h0 : 0 ≤ rr) (h1 : rr < 9) (F : Fr h₀ env.locals s.heap m₀) (N : News h₀ env.locals s.heap news)
    (hsub : ∀ p ∈ (due, dictOf [] 0) :: (x, cdObj dx [] 0) :: (dx, dictOf [] 0) :: (st, W.listOf #[.ref sl, .int i ti, .int t tt] e1) :: rest, p ∈ news) (hm : m₀ tn = some (.ref x)) (hi0 : 0 ≤ i) (hi1 : i ≤ (len : Int))
    (turn : ∀ (k : Int) (tk' : Tok) (m₁ : Str → Option Value) (es : List DictEntry) (n : Nat) (es2 : List DictEntry) (n2 : Nat) (c : Ents) (i t : Int) (ti tt : Tok) (e1 : Nat) (h : Heap) (tk : Nat) (own : List (Addr × Obj)), EK w es c → EK w es2 c → GoodC c → 0 ≤ i → i ≤ (len : Int) → OwnOff own (due :: x :: dx :: st :: rest.map (·.1)) →
      Fr h₀ env.locals h (fun y => if y = kn then some (.int k tk') else if y = tn then some (.ref x) else m₁ y) → News h₀ env.locals h ((due, dictOf es2 n2) :: (x, cdObj dx es n) :: (dx, dictOf [] 0) :: (st, W.listOf #[.ref sl, .int i ti, .int t tt] e1) :: (rest ++ own)) →
      wpAny (model PP w) A (execs body env) (InvPostN h₀ env.locals (LInv w x dx due st sl len rest tn) own (due :: x :: dx :: st :: rest.map (·.1)) { s with heap := h, toks := tk } Q) E { s with heap := h, toks := tk })
    (done : ∀ (m₁ : Str → Option Value) (es : List DictEntry) (n : Nat) (es2 : List DictEntry) (n2 : Nat) (c : Ents) (i t : Int) (ti tt : Tok) (e1 : Nat) (h : Heap) (tk : Nat), EK w es c → EK w es2 c → GoodC c → 0 ≤ i → i ≤ (len : Int) →
      Fr h₀ env.locals h (fun y => if y = tn then some (.ref x) else m₁ y) → News h₀ env.locals h ((due, dictOf es2 n2) :: (x, cdObj dx es n) :: (dx, dictOf [] 0) :: (st, W.listOf #[.ref sl, .int i ti, .int t tt] e1) :: rest) → Q .next { s with heap := h, toks := tk }) :
    wpAny (model PP w) A (pyIter (.ref r)) (fun it s₂ => LoopAtV PP w A h₀ env kn body Q E it s₂) E s := by
  obtain ⟨hs, hn⟩ := small_range h0 h1
  have same : ∀ {m₁ : Str → Option Value}, m₁ tn = some (.ref x) → m₁ = fun y => if y = tn then some (.ref x) else m₁ y := fun {m₁} e => by
    funext y
    by_cases q : y = tn
    · rw [if_pos q, q, e]
    · rw [if_neg q]
  refine iter_rangeS (σ := Unit) (fun _ m nx => LInv w x dx due st sl len rest tn m nx) (fun _ _ => ()) () hh hr hs hn F (news_sub N hsub) ⟨[], 0, [], 0, [], i, t, ti, tt, e1, rfl, trivial, trivial, GoodC.nil, hi0, hi1, hm⟩ ?_ ?_
  · rintro k tk' ⟨⟩ m₁ nx h tk own _ hoff ⟨es, n, es2, n2, c, i, t, ti, tt, e1, rfl, a1, a2, a3, a4, a5, a6⟩ F' N'
    rw [same a6] at F'
    exact turn k tk' m₁ es n es2 n2 c i t ti tt e1 h tk own a1 a2 a3 a4 a5 hoff F' N'
  · rintro m₁ nx h tk ⟨es, n, es2, n2, c, i, t, ti, tt, e1, rfl, a1, a2, a3, a4, a5, a6⟩ F' N'
    rw [same a6] at F'
    exact done m₁ es n es2 n2 c i t ti tt e1 h tk a1 a2 a3 a4 a5 F' N'
end
end Mine
end
section
open PySem PySem.W PyProof.Rows PySem.Calls PySem.SeqAt
set_option maxRecDepth 100000
set_option maxHeartbeats 8000000
theorem Mine.walkResetS34 : True := by w_top off; trivial
namespace Mine
theorem rf_rr {r : Res} {v : Value} {o : Obj} (h : RF r v) (h' : RR r o) : False := by
  cases r with
  | none => exact h'
  | int _ => exact h'
  | pair _ _ => exact h
  | item _ _ => exact h
theorem some_some {r r' : Res} {c c' : Ents} {a : Option Res × Ents} (h : a = (some r, c)) (h' : a = (some r', c')) : r = r' ∧ c = c' := by
  rw [h] at h'
  obtain ⟨a, b⟩ := Prod.mk.inj h'
  exact ⟨Option.some.inj a, b⟩
theorem some_none {r : Res} {c c' : Ents} {a : Option Res × Ents} (h : a = (some r, c)) (h' : a = (none, c')) : False := by
  rw [h] at h'
  cases (Prod.mk.inj h').1
theorem u_doneD_F {w : World} {A₀ : Around} {h₀ : Heap} {env : Env} {A : Around} {L : Addr} {m mg mb : Str → Option Value} {s : Shared} {p : Program} {loose : List Str} {mean : ExcName → Option Value}
    {told : Addr} {es : List DictEntry} {n : Nat} {c : Ents} {news : List (Addr × Obj)} {gg : Obj → List (Addr × Obj)} {Q : Value → Shared → Prop} {E : Value → Shared → Prop} {x : Str} {t : Tok} {kind v : Int} {tkd tv : Tok}
    (hA0 : A.handled = none) (hA : A.frames = some (env :: [])) (hcr : A.depth + 120 < recursionLimit) (hcu : A.units + 500 < cLine)
    (B : Below A₀ h₀ [] h₀) (F : Fr h₀ L s.heap m) (X₀ : (hd.heap_39 w.params).In h₀) (N : News h₀ L s.heap news) (U : UpdF told (dictOf es n) news gg) (T : Top p loose mean mg mb h₀)
    (hf : env.frame = some L) (hk : env.scope.kind = .function) (hE : EK w es c) (hxs : (told == sysModules) = false)  (hsz : c.length ≤ 1000) (hKE : mg (Str.ofString "KeyError") = none)
    {r : Res} {c1 : Ents} {v1 : Value} (hq : deed kind c x v = (some r, c1)) (hv1 : RF r v1)
    (hF : ∀ h' tk es' n' T val, RF r val → EK w es' c1 → Fr h₀ L h' m → News h₀ L h' ((T, { cls := .type "tuple", data := .seq #[.bool true, val] }) :: gg (dictOf es' n')) → Q (.ref T) { s with heap := h', toks := tk }) :
    wpAny (model PP w) A (call (.ref 195) [.ref told, .int kind tkd, .str x t, .int v tv]) Q E s :=
  u_doneD hA0 hA hcr hcu B F X₀ N U T hf hk hE hxs hsz hKE
    (fun h' tk es' n' c' T val r' a b e F' N' => by
      obtain ⟨rfl, rfl⟩ := some_some hq a
      exact hF h' tk es' n' T val b e F' N')
    (fun h' tk es' n' c' T a' o r' a b e F' N' => by
      obtain ⟨rfl, rfl⟩ := some_some hq a
      exact (rf_rr hv1 b).elim)
    (fun h' tk T a F' N' => (some_none hq a).elim)
theorem u_doneD_R {w : World} {A₀ : Around} {h₀ : Heap} {env : Env} {A : Around} {L : Addr} {m mg mb : Str → Option Value} {s : Shared} {p : Program} {loose : List Str} {mean : ExcName → Option Value}
    {told : Addr} {es : List DictEntry} {n : Nat} {c : Ents} {news : List (Addr × Obj)} {gg : Obj → List (Addr × Obj)} {Q : Value → Shared → Prop} {E : Value → Shared → Prop} {x : Str} {t : Tok} {kind v : Int} {tkd tv : Tok}
    (hA0 : A.handled = none) (hA : A.frames = some (env :: [])) (hcr : A.depth + 120 < recursionLimit) (hcu : A.units + 500 < cLine)
    (B : Below A₀ h₀ [] h₀) (F : Fr h₀ L s.heap m) (X₀ : (hd.heap_39 w.params).In h₀) (N : News h₀ L s.heap news) (U : UpdF told (dictOf es n) news gg) (T : Top p loose mean mg mb h₀)
    (hf : env.frame = some L) (hk : env.scope.kind = .function) (hE : EK w es c) (hxs : (told == sysModules) = false)  (hsz : c.length ≤ 1000) (hKE : mg (Str.ofString "KeyError") = none)
    {r : Res} {c1 : Ents} {o1 : Obj} (hq : deed kind c x v = (some r, c1)) (hv1 : RR r o1)
    (hR : ∀ h' tk es' n' T a o, RR r o → EK w es' c1 → Fr h₀ L h' m → News h₀ L h' ((T, { cls := .type "tuple", data := .seq #[.bool true, .ref a] }) :: (a, o) :: gg (dictOf es' n')) → Q (.ref T) { s with heap := h', toks := tk }) :
    wpAny (model PP w) A (call (.ref 195) [.ref told, .int kind tkd, .str x t, .int v tv]) Q E s :=
  u_doneD hA0 hA hcr hcu B F X₀ N U T hf hk hE hxs hsz hKE
    (fun h' tk es' n' c' T val r' a b e F' N' => by
      obtain ⟨rfl, rfl⟩ := some_some hq a
      exact (rf_rr b hv1).elim)
    (fun h' tk es' n' c' T a' o r' a b e F' N' => by
      obtain ⟨rfl, rfl⟩ := some_some hq a
      exact hR h' tk es' n' T a' o b e F' N')
    (fun h' tk T a F' N' => (some_none hq a).elim)
theorem u_doneD_X {w : World} {A₀ : Around} {h₀ : Heap} {env : Env} {A : Around} {L : Addr} {m mg mb : Str → Option Value} {s : Shared} {p : Program} {loose : List Str} {mean : ExcName → Option Value}
    {told : Addr} {es : List DictEntry} {n : Nat} {c : Ents} {news : List (Addr × Obj)} {gg : Obj → List (Addr × Obj)} {Q : Value → Shared → Prop} {E : Value → Shared → Prop} {x : Str} {t : Tok} {kind v : Int} {tkd tv : Tok}
    (hA0 : A.handled = none) (hA : A.frames = some (env :: [])) (hcr : A.depth + 120 < recursionLimit) (hcu : A.units + 500 < cLine)
    (B : Below A₀ h₀ [] h₀) (F : Fr h₀ L s.heap m) (X₀ : (hd.heap_39 w.params).In h₀) (N : News h₀ L s.heap news) (U : UpdF told (dictOf es n) news gg) (T : Top p loose mean mg mb h₀)
    (hf : env.frame = some L) (hk : env.scope.kind = .function) (hE : EK w es c) (hxs : (told == sysModules) = false)  (hsz : c.length ≤ 1000) (hKE : mg (Str.ofString "KeyError") = none)
    (hq : deed kind c x v = (none, c))
    (hX : ∀ h' tk T, Fr h₀ L h' m → News h₀ L h' ((T, { cls := .type "tuple", data := .seq #[.bool false, .none] }) :: news) → Q (.ref T) { s with heap := h', toks := tk }) :
    wpAny (model PP w) A (call (.ref 195) [.ref told, .int kind tkd, .str x t, .int v tv]) Q E s :=
  u_doneD hA0 hA hcr hcu B F X₀ N U T hf hk hE hxs hsz hKE
    (fun h' tk es' n' c' T val r' a b e F' N' => (some_none a hq).elim)
    (fun h' tk es' n' c' T a' o r' a b e F' N' => (some_none a hq).elim)
    (fun h' tk T a F' N' => hX h' tk T F' N')

section
variable {w : World} {A : Around} {E : Value → Shared → Prop} {s : Shared} {h₀ : Heap} {L T1 T2 l : Addr} {m : Str → Option Value} {news : List (Addr × Obj)} {Q : Value → Shared → Prop} {b : Bool} {r : Res}
theorem ln_neR2 {a1 a2 : Addr} {o1 o2 : Obj} (N : News h₀ L s.heap news) (m1 : (T1, tupO #[.bool b, .ref a1]) ∈ news) (m2 : (T2, tupO #[.bool b, .ref a2]) ∈ news) (n1 : (a1, o1) ∈ news) (n2 : (a2, o2) ∈ news) (h1 : RR r o1) (h2 : RR r o2) (hu : A.units + 1 < cLine) (h : Q (.bool false) s) :
    wpAny (model PP w) A (compareOp .NotEq (.ref T1) (.ref T2)) Q E s := by
  refine cmp_ofNotEq (ne_tup (N _ m1).1 (N _ m2).1 (by omega) (EqAt.same _) ?_ _ _ _ _ h)
  by_cases q : a1 = a2
  · rw [q]; exact EqAt.same _
  · exact eq_rr (N _ n1).1 (N _ n2).1 h1 h2 hu q
theorem ln_pick2 {its : Array Value} {n : Nat} {i : Int} {ti : Tok} {value slice : PySem.Expr} (N : News h₀ L s.heap news) (hm : (l, W.listOf its n) ∈ news) (hk : TenKeys its) (h0 : 0 ≤ i) (h1 : i < 10)
    (h : ∀ x t ux, Txt.upper x = ux → ux ∈ five → PySem.Builtin.Str.tooLong (Txt.upper x).length = false → Q (.str x t) s)
    (hs : subscripted slice false (.ref l) (.int i ti) = operate [.ref l, .int i ti] (getItem (.ref l) (.int i ti)) := by with_unfolding_all rfl) :
    wpAny (model PP w) A (subscriptTail value slice (.ref l) (.int i ti)) Q E s := by
  have hl : s.heap.IsList l its := PySem.IsL.isList (n := n) (N _ hm).1
  obtain ⟨x, t, e, ok⟩ := hk.2 i.toNat (by omega)
  exact subscriptTail_builtinR hl.typeIs PySem.F.slot_list_getitem.lookup (wpAny_getItem_list hl h0 (by omega) e ⟨rfl, h x t _ rfl ok.1 ok.2⟩) hs
theorem ne_same {b : Bool} (h : Q (.bool false) s) : wpAny (model PP w) A (compareOp .NotEq (.bool b) (.bool b)) Q E s := by
  refine ne_bool ?_
  rw [show (b != b) = false by cases b <;> rfl]
  exact h
end
theorem ne_cls {h₀ h : Heap} {L a b : Addr} {news : List (Addr × Obj)} {o1 o2 : Obj} {s1 s2 : String} (N : News h₀ L h news) (h1 : (a, o1) ∈ news) (h2 : (b, o2) ∈ news) (e1 : o1.cls = .type s1) (e2 : o2.cls = .type s2) (hs : s1 ≠ s2) : @Ne Nat a b := fun e => by
  have x := (N _ h1).1
  have y := (N _ h2).1
  dsimp only at x y
  rw [show a = b from e, y] at x
  rw [← Option.some.inj x, e2] at e1
  exact hs (Value.type.inj e1).symm
theorem ne_clsR {h₀ h : Heap} {L a b c : Addr} {news : List (Addr × Obj)} {o1 o2 : Obj} {s1 : String} (N : News h₀ L h news) (h1 : (a, o1) ∈ news) (h2 : (b, o2) ∈ news) (e1 : o1.cls = .type s1) (e2 : o2.cls = .ref c) : @Ne Nat a b := fun e => by
  have x := (N _ h1).1
  have y := (N _ h2).1
  dsimp only at x y
  rw [show a = b from e, y] at x
  rw [← Option.some.inj x, e2] at e1
  cases e1
theorem rr_cls {r : Res} {o : Obj} (h : RR r o) : o.cls = .type "tuple" := by
  cases r with
  | none => exact h.elim
  | int _ => exact h.elim
  | pair _ _ => obtain ⟨_, rfl⟩ := h; rfl
  | item _ _ => obtain ⟨_, _, rfl⟩ := h; rfl
/-- the first test of a turn is through: both dicts have done the same -/
def Cut1 (w : World) (h₀ : Heap) (L : Addr) (m : Str → Option Value) (s : Shared) (x dx due : Addr) (rest : List (Addr × Obj)) (fl : Flow) (s' : Shared) : Prop :=
  fl = .next ∧ ∃ h' tk es n es2 n2 c, s' = { s with heap := h', toks := tk } ∧ Fr h₀ L h' m ∧ News h₀ L h' ((due, dictOf es2 n2) :: (x, cdObj dx es n) :: rest) ∧ EK w es c ∧ EK w es2 c ∧ GoodC c
theorem cut1 {w : World} {A : Around} {E : Value → Shared → Prop} {s : Shared} {h₀ : Heap} {L : Addr} {m : Str → Option Value} {x dx due : Addr} {rest pre : List (Addr × Obj)} {es es2 : List DictEntry} {n n2 : Nat} {t : Sem Flow} {Q : Flow → Shared → Prop}
    (_F : Fr h₀ L s.heap m) (_N : News h₀ L s.heap (pre ++ (due, dictOf es2 n2) :: (x, cdObj dx es n) :: rest)) (h1 : wpAny (model PP w) A t (Cut1 w h₀ L m s x dx due rest) E s)
    (h2 : ∀ h' tk es n es2 n2 c, Fr h₀ L h' m → News h₀ L h' ((due, dictOf es2 n2) :: (x, cdObj dx es n) :: rest) → EK w es c → EK w es2 c → GoodC c → Q .next { s with heap := h', toks := tk }) : wpAny (model PP w) A t Q E s :=
  wpAny_mono h1 (fun _ _ ⟨e, h', tk, es, n, es2, n2, c, e', F', N', a, b, g⟩ => by subst e e'; exact h2 h' tk es n es2 n2 c F' N' a b g) fun _ _ z => z
theorem cut1_intro {w : World} {s : Shared} {h₀ : Heap} {L : Addr} {m : Str → Option Value} {x dx due : Addr} {rest : List (Addr × Obj)} {es es2 : List DictEntry} {n n2 : Nat} {c c' : Ents} {kind v : Int} {u : Str} {r : Option Res} {h' : Heap} {tk : Nat}
    (F : Fr h₀ L h' m) (N : News h₀ L h' ((due, dictOf es2 n2) :: (x, cdObj dx es n) :: rest)) (hq : deed kind c u v = (r, c')) (hg : GoodC c) (h5 : u ∈ five) (E1 : EK w es c') (E2 : EK w es2 c') : Cut1 w h₀ L m s x dx due rest .next { s with heap := h', toks := tk } :=
  ⟨rfl, h', tk, es, n, es2, n2, c', rfl, F, N, E1, E2, hg.deed h5 hq⟩
end Mine
end
section
open PySem PySem.W PyProof.Rows PySem.Calls PySem.SeqAt
set_option maxRecDepth 100000
set_option maxHeartbeats 8000000
theorem Mine.walkResetS35 : True := by w_top off; trivial
namespace Mine
theorem find_has_key (w : World) : findIn (hd.heap_39 w.params) (.ref 163) "has_key" = some (some (.ref 125)) := by kernel_rfl
theorem type_has_key (w : World) : typeIn (hd.heap_39 w.params) (.ref 125) = some (.type "function") := by kernel_rfl
theorem deq_same (c : Ents) : DEq c c true := .inl ⟨rfl, rfl⟩
theorem deq_more (c : Ents) (p : Str × Int) : DEq c (c ++ [p]) false := .inr ⟨by simp, rfl⟩
theorem more_free {c : Ents} (h : GoodC c) : Str.ofString "MORE" ∉ c.map (·.1) := fun hm => by
  obtain ⟨p, hp, e⟩ := List.mem_map.mp hm
  have := h.2 p hp
  rw [e] at this
  exact absurd this (by decide +kernel)
theorem more_nodup {c : Ents} {v : Int} (h : GoodC c) : ((c ++ [(Str.ofString "MORE", v)]).map (·.1)).Nodup := by
  rw [List.map_append]
  refine List.nodup_append.mpr ⟨h.1, by simp, fun a ha b hb e => ?_⟩
  have hb' : b = Str.ofString "MORE" := by simpa using hb
  exact more_free h (by rw [← hb', ← e]; exact ha)
theorem more_len {c : Ents} {p : Str × Int} (h : GoodC c) : (c ++ [p]).length ≤ 1000 := by
  have := h.len
  rw [List.length_append, List.length_singleton]
  omega
theorem dict_moreK {w : World} {A : Around} {E : Value → Shared → Prop} {s : Shared} {env : Env} {Q : Value → Shared → Prop} {h₀ : Heap} {L : Addr} {m : Str → Option Value} {news : List (Addr × Obj)} {vE kE wE : PySem.Expr} {pos : Pos} (F : Fr h₀ L s.heap m) (N : News h₀ L s.heap news) (hb : h₀.NoLimit)
    (h : ∀ D h', Fr h₀ L h' m → News h₀ L h' ((D, dictOf [] 0) :: news) → (∀ p ∈ news, p.1 ≠ D) → (D == sysModules) = false → wpAny (model PP w) A (eval vE env) (More1 w A E env kE wE D Q) E { s with heap := h' }) :
    wpAny (model PP w) A (eval (.Dict [none, some kE] [vE, wE] pos) env) Q E s :=
  dict_more (h _ _ (F.push _) (News.push F N _) (fun p hp => Nat.ne_of_lt (Heap.lt_size (N p hp).1)) (F.notModules (modules_low hb)))
/-- the second test of a turn is through: nothing has changed -/
def Cut2 (h₀ : Heap) (L : Addr) (m : Str → Option Value) (s : Shared) (news : List (Addr × Obj)) (fl : Flow) (s' : Shared) : Prop :=
  fl = .next ∧ ∃ h' tk, s' = { s with heap := h', toks := tk } ∧ Fr h₀ L h' m ∧ News h₀ L h' news
theorem cut2 {M : Model} {A : Around} {E : Value → Shared → Prop} {s : Shared} {h₀ : Heap} {L : Addr} {m : Str → Option Value} {news : List (Addr × Obj)} {t : Sem Flow} {Q : Flow → Shared → Prop}
    (_F : Fr h₀ L s.heap m) (_N : News h₀ L s.heap news) (h1 : wpAny M A t (Cut2 h₀ L m s news) E s)
    (h2 : ∀ h' tk, Fr h₀ L h' m → News h₀ L h' news → Q .next { s with heap := h', toks := tk }) : wpAny M A t Q E s :=
  wpAny_mono h1 (fun _ _ ⟨e, h', tk, e', F', N'⟩ => by subst e e'; exact h2 h' tk F' N') fun _ _ z => z
theorem cut2_intro {s : Shared} {h₀ : Heap} {L : Addr} {m : Str → Option Value} {news : List (Addr × Obj)} {h' : Heap} {tk : Nat} (F : Fr h₀ L h' m) (N : News h₀ L h' news) : Cut2 h₀ L m s news .next { s with heap := h', toks := tk } := ⟨rfl, h', tk, rfl, F, N⟩
theorem inv_end {w : World} {h₀ h' : Heap} {L x dx due st sl : Addr} {len : Nat} {rest own : List (Addr × Obj)} {told : Str} {m' : Str → Option Value} {es es2 : List DictEntry} {n n2 e1 tk : Nat} {c : Ents} {i t : Int} {ti tt : Tok} {s₁ : Shared}
    (F : Fr h₀ L h' m') (N : News h₀ L h' ((due, dictOf es2 n2) :: (x, cdObj dx es n) :: (dx, dictOf [] 0) :: (st, W.listOf #[.ref sl, .int i ti, .int t tt] e1) :: (rest ++ own))) (E1 : EK w es c) (E2 : EK w es2 c) (G : GoodC c) (h0 : 0 ≤ i) (h1 : i ≤ (len : Int)) (hm : m' told = some (.ref x)) :
    InvEndN h₀ L (LInv w x dx due st sl len rest told) own (due :: x :: dx :: st :: rest.map (·.1)) s₁ { s₁ with heap := h', toks := tk } :=
  InvEndN.intro (nx := (due, dictOf es2 n2) :: (x, cdObj dx es n) :: (dx, dictOf [] 0) :: (st, W.listOf #[.ref sl, .int i ti, .int t tt] e1) :: rest) F N ⟨⟨es, n, es2, n2, c, i, t, ti, tt, e1, rfl, E1, E2, G, h0, h1, hm⟩⟩ rfl
    (fun p hp => by
      rcases List.mem_cons.mp hp with rfl | hp
      · exact .head _
      · rcases List.mem_cons.mp hp with rfl | hp
        · exact .tail _ (.head _)
        · rcases List.mem_cons.mp hp with rfl | hp
          · exact .tail _ (.tail _ (.head _))
          · rcases List.mem_cons.mp hp with rfl | hp
            · exact .tail _ (.tail _ (.tail _ (.head _)))
            · exact .tail _ (.tail _ (.tail _ (.tail _ (List.mem_append_left _ hp)))))
    (fun p hp => .tail _ (.tail _ (.tail _ (.tail _ (List.mem_append_right _ hp)))))
end Mine
end
section
open PySem PySem.W PyProof.Rows PySem.Calls
set_option maxRecDepth 100000
set_option maxHeartbeats 8000000
theorem Mine.walkResetS36 : True := by w_top off; trivial
namespace Mine
noncomputable def treeRun {α : Type} (lt : Nat → Nat → Bool) : KasT α → α
  | .ret a => a
  | .ask i j k => treeRun lt (k (lt i j))
noncomputable def treeOk {α : Type} (n : Nat) (f : α → Bool) : KasT α → Bool
  | .ret a => f a
  | .ask i j k => (decide (i < n) && decide (j < n) && i != j) && (treeOk n f (k true) && treeOk n f (k false))
theorem treeOk_run {α : Type} {n : Nat} {f : α → Bool} (lt : Nat → Nat → Bool) : ∀ (t : KasT α), treeOk n f t = true → f (treeRun lt t) = true
  | .ret _, h => h
  | .ask i j k, h => by
    have h' : ((decide (i < n) && decide (j < n) && i != j) && (treeOk n f (k true) && treeOk n f (k false))) = true := h
    simp only [Bool.and_eq_true] at h'
    show f (treeRun lt (k (lt i j))) = true
    cases lt i j with
    | true => exact treeOk_run lt (k true) h'.2.1
    | false => exact treeOk_run lt (k false) h'.2.2
theorem treeOk_wp {α : Type} {n : Nat} {f : α → Bool} {lt : Nat → Nat → Bool} {cmp : Nat → Nat → (Bool → Shared → Prop) → Shared → Prop} {Q : α → Shared → Prop} (I : Shared → Prop)
    (hc : ∀ i j (C : Bool → Shared → Prop) s, i < n → j < n → i ≠ j → I s → (∀ s', I s' → C (lt i j) s') → cmp i j C s) : ∀ (t : KasT α) (s : Shared), treeOk n f t = true → I s → (∀ s', I s' → Q (treeRun lt t) s') → t.kasWp cmp Q s
  | .ret _, s, _, hs, h => h s hs
  | .ask i j k, s, ht, hs, h => by
    have h' : ((decide (i < n) && decide (j < n) && i != j) && (treeOk n f (k true) && treeOk n f (k false))) = true := ht
    simp only [Bool.and_eq_true, decide_eq_true_eq, bne_iff_ne] at h'
    refine hc i j _ s h'.1.1.1 h'.1.1.2 h'.1.2 hs fun s' hs' => ?_
    have hk : treeOk n f (k (lt i j)) = true := by
      cases lt i j with
      | true => exact h'.2.1
      | false => exact h'.2.2
    exact treeOk_wp I hc (k (lt i j)) s' hk hs' h
def fine (n : Nat) (p : Array Nat) : Bool := p.size == n && p.toList.all fun i => decide (i < n)
theorem fine2 : treeOk 2 (fine 2) (kas_sort 2) = true := by decide +kernel
theorem fine3 : treeOk 3 (fine 3) (kas_sort 3) = true := by decide +kernel
theorem fine4 : treeOk 4 (fine 4) (kas_sort 4) = true := by decide +kernel
theorem fine5 : treeOk 5 (fine 5) (kas_sort 5) = true := by decide +kernel
theorem fineN {n : Nat} (h2 : 2 ≤ n) (h5 : n ≤ 5) : treeOk n (fine n) (kas_sort n) = true := by
  obtain rfl | rfl | rfl | rfl : n = 2 ∨ n = 3 ∨ n = 4 ∨ n = 5 := by omega
  · exact fine2
  · exact fine3
  · exact fine4
  · exact fine5
abbrev noStr : Str := ⟨#[]⟩
def ltS (xs : List Str) (i j : Nat) : Bool := decide ((xs.getD i noStr).cps.toList < (xs.getD j noStr).cps.toList)
noncomputable def permS (xs : List Str) : List Nat := if 2 ≤ xs.length then (treeRun (ltS xs) (kas_sort xs.length)).toList else List.range xs.length
noncomputable def sortS (xs : List Str) : List Str := (permS xs).map fun i => xs.getD i noStr
theorem permS_lt {xs : List Str} (h5 : xs.length ≤ 5) : ∀ i ∈ permS xs, i < xs.length := by
  intro i hi
  unfold permS at hi
  by_cases h2 : 2 ≤ xs.length
  · rw [if_pos h2] at hi
    have := treeOk_run (ltS xs) _ (fineN h2 h5)
    unfold fine at this
    simp only [Bool.and_eq_true, List.all_eq_true, decide_eq_true_eq] at this
    exact this.2 i hi
  · rw [if_neg h2] at hi
    exact List.mem_range.mp hi
theorem permS_len {xs : List Str} (h5 : xs.length ≤ 5) : (permS xs).length = xs.length := by
  unfold permS
  by_cases h2 : 2 ≤ xs.length
  · rw [if_pos h2]
    have := treeOk_run (ltS xs) _ (fineN h2 h5)
    unfold fine at this
    simp only [Bool.and_eq_true, beq_iff_eq] at this
    rw [Array.length_toList]; exact this.1
  · rw [if_neg h2, List.length_range]
theorem sortS_len {xs : List Str} (h5 : xs.length ≤ 5) : (sortS xs).length = xs.length := by unfold sortS; rw [List.length_map, permS_len h5]
theorem sortS_mem {xs : List Str} (h5 : xs.length ≤ 5) : ∀ x ∈ sortS xs, x ∈ xs := by
  intro x hx
  obtain ⟨i, hi, rfl⟩ := List.mem_map.mp hx
  have := permS_lt h5 i hi
  rw [List.getD_eq_getElem?_getD, List.getElem?_eq_getElem this]
  exact List.getElem_mem this
theorem range_map {α : Type} {d : α} : ∀ (vs : List α), (List.range vs.length).map (fun i => vs.getD i d) = vs := by
  intro vs
  refine List.ext_getElem (by simp) fun i h1 h2 => ?_
  simp at h1
  simp [h1]
theorem strs_getD : ∀ {vs : List Value} {xs : List Str}, StrsAre vs xs → ∀ i, i < xs.length → ∃ t, vs.getD i .none = .str (xs.getD i noStr) t
  | _, _, .nil, i, h => absurd h (Nat.not_lt_zero _)
  | _, _, .cons x t r, 0, h => ⟨t, rfl⟩
  | _, _, .cons x t r, i + 1, h => by
    obtain ⟨u, e⟩ := strs_getD r i (Nat.lt_of_succ_lt_succ h)
    exact ⟨u, by simpa using e⟩
theorem strs_pick {vs : List Value} {xs : List Str} (hS : StrsAre vs xs) : ∀ (ps : List Nat), (∀ i ∈ ps, i < xs.length) → StrsAre (ps.map fun i => vs.getD i .none) (ps.map fun i => xs.getD i noStr)
  | [], _ => .nil
  | i :: ps, h => by
    obtain ⟨t, e⟩ := strs_getD hS i (h i (.head _))
    rw [List.map_cons, List.map_cons, e]
    exact .cons _ _ (strs_pick hS ps fun j hj => h j (.tail _ hj))
section
variable {w : World} {A : Around} {E : Value → Shared → Prop} {s : Shared} {h₀ : Heap} {L a : Addr} {m : Str → Option Value} {news : List (Addr × Obj)} {vs : List Value} {xs : List Str}
def SortQ (h₀ : Heap) (L : Addr) (m : Str → Option Value) (a : Addr) (news : List (Addr × Obj)) (xs : List Str) (s : Shared) (Q : Shared → Prop) : Prop :=
  ∀ h' tk vs' c, Fr h₀ L h' m → News h₀ L h' ((a, listOf (List.toArray vs') c) :: news) → StrsAre vs' (sortS xs) → Q { s with heap := h', toks := tk }
theorem lsort_str {n : Nat} {Q : Value → Shared → Prop} (F : Fr h₀ L s.heap m) (N : News h₀ L s.heap ((a, listOf (List.toArray vs) n) :: news)) (hna : ∀ p ∈ news, p.1 ≠ a)
    (hS : StrsAre vs xs) (h5 : xs.length ≤ 5) (h : SortQ h₀ L m a news xs s (Q .none)) :
    wpAny (model PP w) A (call (.builtin "list.sort") [.ref a]) Q E s := by
  have hl : vs.length = xs.length := StrsAre.length hS
  have nz := N _ (.head _)
  by_cases h2 : 2 ≤ vs.length
  · refine kas_lsort (T := .type "str") F N (UpdF.head hna) (List.toList_toArray ..) h2 (by omega) (fun e1 h' F' N' v hv => ?_) (by decide) fun e1 h' F' N' => ?_
    · obtain ⟨x, t, rfl⟩ := hS.all v hv
      exact Looks.of_pure rfl
    · have hp : (treeRun (ltS xs) (kas_sort vs.length)).toList = permS xs := by unfold permS; rw [if_pos (hl ▸ h2), hl]
      refine treeOk_wp (n := vs.length) (f := fine vs.length) (lt := ltS xs) (fun s' => s' = { s with heap := h' }) (fun i j C s' hi hj _ hs hC => ?_) _ _ (fineN h2 (by omega)) rfl (fun s' hs => ?_)
      · obtain ⟨t, e⟩ := strs_getD hS i (by omega)
        obtain ⟨u, e'⟩ := strs_getD hS j (by omega)
        unfold kas_ask
        rw [e, e']
        exact kas_lt_str (hC s' hs)
      · subst hs
        refine KasFin.intro F' N' (UpdF.head hna) fun h2' c F2 N2 => ?_
        rw [hp] at N2
        exact h h2' s.toks _ c F2 N2 (strs_pick hS _ (permS_lt (by omega)))
  · have hz : s.heap.get? a = some (seqObj "list" vs.toArray n) := nz.1
    refine wpAny_call_entry slot_list_sort ⟨_, nz.1, rfl⟩ entry_list_sort (list_sort_treeK strKind_oneLt hz hS.keysOf (fun v₁ v₂ rest e => absurd (by rw [e]; simp) h2) (by omega) fun st' hp hs => ?_) (args_list_sort _)
    obtain ⟨xs', h1, hq, h3⟩ := sorted_out_str hS hp hs
    have ex : xs' = xs := by
      have hx : xs.length < 2 := by omega
      match xs, hx, hq with
      | [], _, hq => exact List.perm_nil.mp hq
      | [x], _, hq => exact List.perm_singleton.mp hq
      | _ :: _ :: r, hx, _ => exact absurd hx (by simp)
    have es : sortS xs = xs := by unfold sortS permS; rw [if_neg (by omega)]; exact range_map xs
    obtain ⟨c, hc⟩ := sortedHeap_at (out := (arrOf st').map (·.2)) hz
    have s2 : ∀ b o, b ≠ a → s.heap.get? b = some o → (sortedHeap s.heap a vs ((arrOf st').map (·.2))).get? b = some o := fun b o hb e => (sortedHeap_old hb (Heap.lt_size e)).trans e
    refine ⟨_, rfl, h _ s.toks ((arrOf st').map (·.2)).toList c ?_ (fun p hp => ?_) ?_⟩
    · exact ⟨F.ns.at' fun o e => s2 L o (Ne.symm nz.2.1) e, fun b o e => s2 b o (fun q => by rw [q, nz.2.2] at e; cases e) (F.keep b o e), F.above⟩
    · rcases List.mem_cons.mp hp with rfl | hp
      · exact ⟨by rw [Array.toArray_toList]; exact hc, nz.2⟩
      · have := N p (.tail _ hp)
        exact ⟨s2 _ _ (hna p hp) this.1, this.2⟩
    · rw [es, ← ex]; exact h1
end
end Mine
end
section
open PySem PySem.W PyProof.Rows PySem.Calls
set_option maxRecDepth 100000
set_option maxHeartbeats 8000000
theorem Mine.walkResetS37 : True := by w_top off; trivial
namespace Mine
noncomputable def sortR (c : Ents) : Ents := (permS (c.map (·.1))).map fun i => c.getD i (noStr, 0)
theorem keys_getD (c : Ents) (i : Nat) : (c.map (·.1)).getD i noStr = (c.getD i (noStr, 0)).1 := by
  simp only [List.getD_eq_getElem?_getD, List.getElem?_map]
  cases c[i]? <;> rfl
theorem nodup_inj {c : Ents} (hn : (c.map (·.1)).Nodup) {i j : Nat} (hi : i < c.length) (hj : j < c.length) (e : (c[i]).1 = (c[j]).1) : i = j := by
  rcases Nat.lt_trichotomy i j with h | h | h
  · have := List.pairwise_iff_getElem.mp hn i j (by rw [List.length_map]; exact hi) (by rw [List.length_map]; exact hj) h
    simp [e] at this
  · exact h
  · have := List.pairwise_iff_getElem.mp hn j i (by rw [List.length_map]; exact hj) (by rw [List.length_map]; exact hi) h
    simp [e] at this
theorem rows_at {c : Ents} {as : List Addr} {seg : List (Addr × Obj)} (r : Rows c as seg) {i : Nat} (hi : i < c.length) : ∃ t t', (as.getD i 0, tupO #[.str (c.getD i (noStr, 0)).1 t, .int (c.getD i (noStr, 0)).2 t']) ∈ seg := by
  have h1 : as[i]? = some (as.getD i 0) := by rw [List.getD_eq_getElem?_getD, List.getElem?_eq_getElem (by rw [r.1]; exact hi)]; rfl
  have h2 : c[i]? = some (c.getD i (noStr, 0)) := by rw [List.getD_eq_getElem?_getD, List.getElem?_eq_getElem hi]; rfl
  exact r.2 i _ _ h1 h2
theorem rows_pick {c : Ents} {as : List Addr} {seg : List (Addr × Obj)} (r : Rows c as seg) (ps : List Nat) (hps : ∀ i ∈ ps, i < c.length) : Rows (ps.map fun i => c.getD i (noStr, 0)) (ps.map fun i => as.getD i 0) seg := by
  refine ⟨by rw [List.length_map, List.length_map], fun j a p ha hp => ?_⟩
  rw [List.getElem?_map] at ha hp
  obtain ⟨i, hi, rfl⟩ := Option.map_eq_some_iff.mp ha
  rw [hi] at hp
  obtain rfl := Option.some.inj hp
  exact rows_at r (hps i (List.mem_of_getElem? hi))
theorem refs_getD (as : List Addr) {i : Nat} (hi : i < as.length) : (as.map Value.ref).getD i .none = .ref (as.getD i 0) := by
  simp [hi]
theorem rows_tups {h : Heap} : ∀ {c : Ents} {as : List Addr} {seg : List (Addr × Obj)}, Rows c as seg → (∀ p ∈ seg, h.get? p.1 = some p.2) → ∃ fs, KatTups h (as.map Value.ref) fs ∧ fs.length = c.length ∧ ∀ v ∈ fs, ∃ x t, v = .str x t
  | [], [], _, _, _ => ⟨[], trivial, rfl, fun _ hv => nomatch hv⟩
  | [], _ :: _, _, r, _ => by have := r.1; simp at this
  | _ :: _, [], _, r, _ => by have := r.1; simp at this
  | p :: c, a :: as, seg, r, hs => by
    obtain ⟨t, t', hm⟩ := r.2 0 a p rfl rfl
    obtain ⟨fs, h1, h2, h3⟩ := rows_tups (c := c) (as := as) (seg := seg) ⟨by have := r.1; simpa using this, fun j b q hb hq => r.2 (j + 1) b q (by simpa using hb) (by simpa using hq)⟩ hs
    refine ⟨.str p.1 t :: fs, KatTups.cons (hs _ hm) rfl rfl rfl h1, by simp [h2], fun v hv => ?_⟩
    rcases List.mem_cons.mp hv with rfl | hv
    · exact ⟨_, _, rfl⟩
    · exact h3 v hv
section
variable {w : World} {A : Around} {E : Value → Shared → Prop} {s : Shared} {h₀ : Heap} {L a : Addr} {m : Str → Option Value} {rest seg : List (Addr × Obj)} {as : List Addr} {c : Ents}
theorem lsort_rows {n : Nat} {Q : Value → Shared → Prop} (F : Fr h₀ L s.heap m) (N : News h₀ L s.heap ((a, lstO as n) :: rest)) (hna : ∀ p ∈ rest, p.1 ≠ a)
    (r : Rows c as seg) (hs : ∀ p ∈ seg, p ∈ rest) (hn : (c.map (·.1)).Nodup) (h5 : c.length ≤ 5)
    (h : ∀ h' tk as' ep, Fr h₀ L h' m → News h₀ L h' ((a, lstO as' ep) :: rest) → Rows (sortR c) as' seg → Q .none { s with heap := h', toks := tk }) :
    wpAny (model PP w) A (call (.builtin "list.sort") [.ref a]) Q E s := by
  have hl : as.length = c.length := r.1
  have hkl : (c.map (·.1)).length = c.length := List.length_map ..
  have nz := N _ (.head _)
  have hrows := rows_pick r (permS (c.map (·.1))) (fun i hi => by rw [← hkl]; exact permS_lt (by rw [hkl]; exact h5) i hi)
  have heq : ∀ ps : List Nat, (∀ i ∈ ps, i < c.length) → (ps.map fun i => (as.map Value.ref).getD i Value.none) = (ps.map fun i => as.getD i 0).map Value.ref := fun ps hps => by
    rw [List.map_map]
    exact List.map_congr_left fun i hi => refs_getD as (by rw [hl]; exact hps i hi)
  by_cases h2 : 2 ≤ c.length
  · have hv2 : (as.map Value.ref).length = c.length := by rw [List.length_map, hl]
    refine kat_lsort (vs := as.map Value.ref) F N (UpdF.head hna) (List.toList_toArray ..) (by omega) (by omega) fun e1 h' F' N' => ?_
    have hsg : ∀ p ∈ seg, h'.get? p.1 = some p.2 := fun p hp => (N' p (.tail _ (hs p hp))).1
    obtain ⟨fs, k1, k2, k3⟩ := rows_tups r hsg
    refine kat_kind (T := .type "str") k1 (by omega) (fun v hv => by obtain ⟨x, t, rfl⟩ := k3 v hv; exact Looks.of_pure rfl) rfl ?_
    have hp : (treeRun (ltS (c.map (·.1))) (kas_sort (as.map Value.ref).length)).toList = permS (c.map (·.1)) := by unfold permS; rw [if_pos (by rw [hkl]; exact h2), hkl, hv2]
    refine treeOk_wp (n := (as.map Value.ref).length) (f := fine (as.map Value.ref).length) (lt := ltS (c.map (·.1))) (fun s' => s' = { s with heap := h' }) (fun i j C s' hi hj hij hs' hC => ?_) _ _ (fineN (by omega) (by omega)) rfl (fun s' hs' => ?_)
    · rw [hv2] at hi hj
      obtain ⟨t, t', e⟩ := rows_at r hi
      obtain ⟨u, u', e'⟩ := rows_at r hj
      unfold kas_ask
      rw [refs_getD as (by omega), refs_getD as (by omega)]
      subst hs'
      refine kat_lt (hsg _ e) rfl (hsg _ e') rfl ?_
      have hne : ¬ (c.getD i (noStr, 0)).1 = (c.getD j (noStr, 0)).1 := fun q => by
        rw [List.getD_eq_getElem?_getD, List.getElem?_eq_getElem hi, List.getD_eq_getElem?_getD, List.getElem?_eq_getElem hj] at q
        exact hij (nodup_inj hn hi hj (by simpa using q))
      refine kat_cons (wpAny_eqBool_str ?_)
      rw [decide_eq_false hne]
      refine kat_no (oneLt_str ?_)
      have hg := hC _ rfl
      unfold ltS at hg
      rw [keys_getD, keys_getD] at hg
      exact hg
    · subst hs'
      refine KasFin.intro F' N' (UpdF.head hna) fun h2' ep F2 N2 => ?_
      rw [hp, heq _ (fun i hi => by rw [← hkl]; exact permS_lt (by rw [hkl]; exact h5) i hi)] at N2
      exact h h2' s.toks _ ep F2 N2 hrows
  · have hz : s.heap.get? a = some (seqObj "list" (as.map Value.ref).toArray n) := nz.1
    have h1 : ¬ 2 ≤ (c.map (·.1)).length := by rw [hkl]; exact h2
    have hpr : permS (c.map (·.1)) = List.range as.length := by unfold permS; rw [if_neg h1, hkl, hl]
    have back : ((List.range as.length).map fun i => as.getD i 0) = as := range_map as
    unfold sortR at h
    rw [hpr] at hrows h
    rw [back] at hrows
    have hlt := Heap.lt_size hz
    refine wpAny_call_entry slot_list_sort ⟨_, nz.1, rfl⟩ entry_list_sort ?_ (args_list_sort _)
    rw [list_sort_plain]
    have h64 : (as.map Value.ref).toArray.size ≤ sizeLine := by rw [List.size_toArray, List.length_map, sizeLine_eq]; omega
    obtain ⟨e1, ho1⟩ : ∃ e1, (s.heap.update a (Obj.mapSeq fun _ => #[])).get? a = some (seqObj "list" #[] e1) := ⟨_, get?_update_seq hz (fun _ => #[])⟩
    have ho6 : (((s.heap.update a (Obj.mapSeq fun _ => #[])).push (seqObj "tuple" (as.map Value.ref).toArray 0)).push (seqObj "list" #[] 0)).get? a = some (seqObj "list" #[] e1) := Heap.get?_push_of_some _ (Heap.get?_push_of_some _ ho1)
    refine wpAny_bind (listItems_at hz rfl (wpAny_bind (listUpdate_at hz rfl (wpAny_bind (seqEpoch_at ho1 rfl (wpAny_bind (wpAny_newTuple (wpAny_bind (wpAny_newList (wpAny_holding ?_) (Nat.zero_le _))) h64)))) h64 (Nat.zero_le _))))
    show wpAny (model PP w) A.in1 _ _ E { s with heap := ((s.heap.update a (Obj.mapSeq fun _ => #[])).push (seqObj "tuple" (as.map Value.ref).toArray 0)).push (seqObj "list" #[] 0) }
    have hlow : (as.map Value.ref).toArray.size < 2 := by rw [List.size_toArray, List.length_map]; omega
    dsimp only
    rw [if_pos hlow, if_pos hlow]
    refine wpAny_bind (wpAny_pure ?_)
    rw [StateT.run_pure]
    refine wpAny_bind (wpAny_pure ?_)
    dsimp only
    refine wpAny_bind (seqEpoch_at ho6 rfl ?_)
    have hout : ((as.map Value.ref).toArray.zip (as.map Value.ref).toArray).map (·.2) = (as.map Value.ref).toArray := by
      apply Array.toList_inj.mp
      rw [Array.toList_map, Array.toList_zip]
      exact List.map_snd_zip (Nat.le_refl _)
    refine wpAny_bind (listUpdate_at ho6 rfl ?_ (Nat.zero_le _) (by show (((as.map Value.ref).toArray.zip (as.map Value.ref).toArray).map (·.2)).size ≤ _; rw [hout]; exact Nat.le_succ_of_le h64))
    simp only [bne_self_eq_false, Bool.false_eq_true, if_false]
    refine wpAny_pure ⟨_, rfl, ?_⟩
    show Q .none { s with heap := (((s.heap.update a (Obj.mapSeq fun _ => #[])).push (seqObj "tuple" (as.map Value.ref).toArray 0)).push (seqObj "list" #[] 0)).update a (Obj.mapSeq fun _ => ((as.map Value.ref).toArray.zip (as.map Value.ref).toArray).map (·.2)) }
    rw [hout]
    have s2 : ∀ b o, b ≠ a → s.heap.get? b = some o → ((((s.heap.update a (Obj.mapSeq fun _ => #[])).push (seqObj "tuple" (as.map Value.ref).toArray 0)).push (seqObj "list" #[] 0)).update a (Obj.mapSeq fun _ => (as.map Value.ref).toArray)).get? b = some o := fun b o hb e => by
      rw [Heap.get?_update_ne _ _ _ _ hb]
      refine Heap.get?_push_of_some _ (Heap.get?_push_of_some _ ?_)
      rw [Heap.get?_update_ne _ _ _ _ hb]; exact e
    obtain ⟨c2, hc2⟩ : ∃ c2, ((((s.heap.update a (Obj.mapSeq fun _ => #[])).push (seqObj "tuple" (as.map Value.ref).toArray 0)).push (seqObj "list" #[] 0)).update a (Obj.mapSeq fun _ => (as.map Value.ref).toArray)).get? a = some (lstO as c2) := ⟨_, get?_update_seq ho6 fun _ => (as.map Value.ref).toArray⟩
    refine h _ s.toks as c2 ⟨F.ns.at' fun o e => s2 L o (Ne.symm nz.2.1) e, fun b o e => s2 b o (fun q => by rw [q, nz.2.2] at e; cases e) (F.keep b o e), F.above⟩ (fun p hp => ?_) hrows
    rcases List.mem_cons.mp hp with rfl | hp
    · exact ⟨hc2, nz.2⟩
    · have := N p (.tail _ hp)
      exact ⟨s2 _ _ (hna p hp) this.1, this.2⟩
end
end Mine
end
section
open PySem PySem.W PyProof.Rows PySem.Calls
set_option maxRecDepth 100000
set_option maxHeartbeats 8000000
theorem Mine.walkResetS38 : True := by w_top off; trivial
namespace Mine
section
variable {w : World} {A : Around} {E : Value → Shared → Prop} {s : Shared} {h₀ : Heap} {L d l vw : Addr} {m : Str → Option Value} {news : List (Addr × Obj)} {vs : List Value} {xs : List Str} {es : List DictEntry} {n : Nat} {c : Ents} {Q : Value → Shared → Prop}
def StrOut (Q : Value → Shared → Prop) (h₀ : Heap) (L : Addr) (m : Str → Option Value) (news : List (Addr × Obj)) (xs : List Str) (s : Shared) : Prop :=
  ∀ D h' tk vs' c, Fr h₀ L h' m → News h₀ L h' ((D, listOf (List.toArray vs') c) :: news) → StrsAre vs' (sortS xs) → (∀ q ∈ news, q.1 < D) → Q (.ref D) { s with heap := h', toks := tk }
theorem ln_sortedL {k : Nat} (F : Fr h₀ L s.heap m) (N : News h₀ L s.heap news) (hl : (l, listOf (List.toArray vs) k) ∈ news) (hS : StrsAre vs xs) (h5 : xs.length ≤ 5) (h : StrOut Q h₀ L m news xs s) :
    wpAny (model PP w) A (call (.builtin "sorted") [.ref l]) Q E s := by
  have h64 : vs.length ≤ sizeLine := by rw [StrsAre.length hS, sizeLine_eq]; omega
  refine Calls.call_function_entry kind_sorted plain_sorted entry_sorted (args_sorted1 _) ?_
  unfold Builtin.«sorted»
  refine wpAny_bind (m := checkCount "sorted" 1 1 _) (wpAny_pure ?_)
  refine wpAny_bind (collect_list (vs := vs) (News.isList N hl) ?_ (by simpa using h64))
  refine wpAny_bind (wpAny_newList ?_ h64)
  refine wpAny_bind (wpAny_holding ?_)
  have keep : ∀ b o, s.heap.get? b = some o → ((s.heap.push (seqObj "list" #[] 0)).update s.heap.objs.size (Obj.mapSeq (· ++ vs.toArray))).get? b = some o := fun b o q => by
    rw [Heap.get?_update_ne _ _ _ _ (Nat.ne_of_lt (Heap.lt_size q))]
    exact Heap.get?_push_of_some _ q
  have F1 := F.keeps keep
  have N1 : News h₀ L _ news := fun p hp => ⟨keep _ _ (N p hp).1, (N p hp).2⟩
  refine lsort_str (n := 0) (F1.push _) (News.push F1 N1 _ rfl) (fun p hp => Nat.ne_of_lt (Heap.lt_size (N1 p hp).1)) hS h5 fun h' tk vs' c F' N' hS' => ?_
  exact wpAny_pure ⟨_, rfl, h _ h' tk vs' c F' N' hS' fun q hq => Heap.lt_size (N1 q hq).1⟩
theorem keys_strs {w : World} : ∀ {es : List DictEntry} {c : Ents} {vs : List Value}, EK w es c → vs.length = c.length → (∀ (j : Nat) (v : Value), vs[j]? = some v → ∃ k x, (kvsOf es c)[j]? = some (k, x) ∧ (PySem.strKind PP w).is k v = true) → StrsAre vs (c.map (·.1))
  | [], [], [], _, _, _ => .nil
  | [], [], _ :: _, _, hl, _ => by simp at hl
  | e :: es, p :: c, [], _, hl, _ => by simp at hl
  | e :: es, p :: c, v :: vs, hE, hl, h => by
    obtain ⟨k, x, h1, h2⟩ := h 0 v rfl
    have hk : k = p.1 := by
      obtain ⟨p', t, e4, e5, _⟩ := kvs_at hE h1
      obtain rfl : p = p' := by simpa using e4
      exact e5
    obtain ⟨t, rfl⟩ := Value.isStrOf_shape h2
    rw [List.map_cons, ← hk]
    exact .cons _ _ (keys_strs hE.2 (by simpa using hl) fun j v hj => by
      obtain ⟨k', x', a, b⟩ := h (j + 1) v (by simpa using hj)
      exact ⟨k', x', by simpa [kvsOf] using a, b⟩)
  | [], _ :: _, _, h, _, _ => h.elim
  | _ :: _, [], _, h, _, _ => h.elim
theorem ln_sortedD (hh : A.handled = none) (F : Fr h₀ L s.heap m) (N : News h₀ L s.heap news) (hp : (d, dictOf es n) ∈ news) (hE : EK w es c) (hn : (c.map (·.1)).Nodup) (h5 : c.length ≤ 5) (lo : (d == sysModules) = false) (h : StrOut Q h₀ L m news (c.map (·.1)) s) :
    wpAny (model PP w) A (call (.builtin "sorted") [.ref d]) Q E s := by
  have hD := dictAt_EK (N _ hp).1 hE hn
  have hl := kvs_len hE
  refine kdu_sorted (kdl_dict lo) hh F N hD (by rw [hl, sizeLine_eq]; omega) fun D h' tk vs F' N' hlt hv hP => ?_
  exact lsort_str F' N' (fun p hp => Nat.ne_of_lt (hlt p hp)) (keys_strs hE (by rw [hv, hl]) hP) (by rw [List.length_map]; exact h5) fun h2 tk2 vs2 c2 F2 N2 hS2 => h D h2 tk2 vs2 c2 F2 N2 hS2 hlt
theorem ln_sortedI (hh : A.handled = none) (F : Fr h₀ L s.heap m) (N : News h₀ L s.heap news) (hv : (vw, viewO "dict_items" d) ∈ news) (hp : (d, dictOf es n) ∈ news) (hE : EK w es c) (hn : (c.map (·.1)).Nodup) (h5 : c.length ≤ 5)
    (h : RowsQ Q h₀ L m news (sortR c) s) :
    wpAny (model PP w) A (call (.builtin "sorted") [.ref vw]) Q E s := by
  have hD := dictAt_EK (N _ hp).1 hE hn
  have hl := kvs_len hE
  refine call_function_entry kind_sorted plain_sorted entry_sorted (args_sorted1 _) ?_
  unfold Builtin.«sorted»
  refine wpAny_bind (m := checkCount "sorted" 1 1 _) (wpAny_pure ?_)
  refine wpAny_bind (kdx_collect (A := A.in1) hh ⟨_, (N _ hv).1, rfl, rfl⟩ hD (by rw [hl, sizeLine_eq]; omega) fun h' tk as k hal hG => ?_)
  have fresh : ∀ a, s.heap.objs.size ≤ a → s.heap.get? a = none := fun a ha => by
    cases e : s.heap.get? a with
    | none => rfl
    | some o => exact absurd (Heap.lt_size e) (Nat.not_lt.mpr ha)
  have hseg : ∃ seg : List (Addr × Obj), (∀ q ∈ seg, h'.get? q.1 = some q.2 ∧ s.heap.get? q.1 = none) ∧ Rows c as seg := by
    refine ⟨(as.filterMap fun a => (h'.get? a).map fun o => (a, o)), fun q hq => ?_, by rw [hal, hl], fun j a p ha hp' => ?_⟩
    · obtain ⟨a, ha, e⟩ := List.mem_filterMap.mp hq
      obtain ⟨o, ho, rfl⟩ := Option.map_eq_some_iff.mp e
      exact ⟨ho, fresh a (Nat.le_of_lt (hG.above a ha))⟩
    · obtain ⟨key, k', x, e1, e2, e3⟩ := hG.pairs j a ha
      obtain ⟨p', t, e4, rfl, rfl⟩ := kvs_at hE e1
      obtain rfl : p' = p := by rw [hp'] at e4; exact (Option.some.inj e4).symm
      obtain ⟨t', rfl⟩ := Value.isStrOf_shape e2
      exact ⟨t', t, List.mem_filterMap.mpr ⟨a, List.mem_of_getElem? ha, by rw [e3]; rfl⟩⟩
  obtain ⟨seg, hs, hr⟩ := hseg
  obtain ⟨F1, N1⟩ := news_add (seg := seg) F N k hs
  have hsz : (as.map Value.ref).length ≤ sizeLine := by rw [List.length_map, hal, hl, sizeLine_eq]; omega
  refine wpAny_bind (wpAny_newList ?_ hsz)
  refine wpAny_bind (wpAny_holding ?_)
  have hlt : ∀ p ∈ seg ++ news, p.1 < h'.objs.size := fun p hp => Heap.lt_size (N1 p hp).1
  refine lsort_rows (s := { s with heap := h'.push (lstO as 0), toks := tk }) (n := 0) (rest := seg ++ news) (F1.push _) (News.push F1 N1 _ rfl) (fun p hp => Nat.ne_of_lt (hlt p hp)) hr (fun p hp => List.mem_append_left _ hp) hn h5 fun h2 tk2 as2 ep F2 N2 r2 => ?_
  exact wpAny_pure ⟨_, rfl, h _ h2 tk2 as2 ep seg F2 N2 r2 fun q hq => Nat.ne_of_lt (hlt q (List.mem_append_right _ hq))⟩
end
end Mine
end
section
open PySem PySem.W PyProof.Rows PySem.Calls PyProof.Rows.LCg PyProof.Rows.LCt
set_option maxRecDepth 100000
set_option maxHeartbeats 8000000
theorem Mine.walkResetS39 : True := by w_top off; trivial
namespace Mine
-- a comprehension that keeps some keys of a dict-like object
theorem told_walks {w : World} {A : Around} (hh : A.handled = none) (I d : Addr) (hne : d ≠ I) (es : List DictEntry) (ep : Nat) :
    Walks PP w A I [I, d] [I] es.toArray.size (fun i v => ∃ e, es[i]? = some e ∧ v = e.key) (fun i h => h.get? I = some (kitO d i es.toArray.size ep) ∧ VD h d es.toArray ep) where
  sub := fun b hb => by rw [List.mem_singleton.mp hb]; exact .head _
  frame := fun _ _ _ st hk => ⟨hk I (.head _) _ st.1, st.2.at fun o e => hk d (.tail _ (.head _)) o e⟩
  item := fun i s Q E hi st hQ => by
    obtain ⟨hp, g, dr, tk, os⟩ := s
    refine nk_item st.1 st.2 hi fun h' e sb => ?_
    exact hQ _ h' tk ⟨es[i]'(by simpa using hi), by simp at hi; simp [hi], by simp⟩ ⟨e, st.2.at fun o e' => sb.extBut d o hne e'⟩ fun b o hb e' => sb.extBut b o (fun q => hb (by rw [q]; exact .head _)) e'
  done := fun s Q E st hQ => by
    obtain ⟨hp, g, dr, tk, os⟩ := s
    exact nk_end hh st.1 st.2 fun h' k => hQ h' tk fun b o hb e' => k b o (fun q => hb (by rw [q]; exact .head _)) e'
  self := fun _ _ _ _ st hQ => wpAny_pyIter_keyiter ⟨_, st.1, rfl, rfl⟩ hQ
theorem iter_keysV {w : World} {A : Around} {E : Value → Shared → Prop} {hp : Heap} {g : Array GenState} {dr : Drawn} {tk : Nat} {os : OsState} {vw d : Addr} {ep : Nat} {Q : Value → Shared → Prop} {ea : Array DictEntry}
    (hv : hp.get? vw = some (viewO "dict_keys" d)) (hm : VD hp d ea ep) (q : Q (.ref hp.objs.size) ⟨hp.push (kitO d 0 ea.size ep), g, dr, tk, os⟩) :
    wpAny (model PP w) A (pyIter (.ref vw)) Q E ⟨hp, g, dr, tk, os⟩ := by
  obtain ⟨o, ho, hdat⟩ := hm
  have ty : Shared.TypeIs ⟨hp, g, dr, tk, os⟩ (.ref vw) "dict_keys" := ⟨_, hv, rfl⟩
  refine wpAny_pyIter_slot ty kdl_slot_keys_iter (wpAny_call_entry kdl_slot_keys_iter ty kdl_entry_keys_iter ?_ (kdl_args_keys_iter _))
  unfold Builtin.«dict_keys.__iter__»
  refine wpAny_bind (wpAny_pure (wpAny_bind ?_))
  unfold Builtin.Dict_items.dictOf
  refine wpAny_bind (wpAny_field hv rfl (x := .ref d) rfl (wpAny_pure (wpAny_bind ?_)))
  unfold Builtin.Dict_items.newIterator
  refine wpAny_bind (wpAny_dictEntries ho hdat (wpAny_bind (wpAny_dictEpoch ho hdat ?_)))
  simp only [ownsK, Bool.false_eq_true, if_false]
  refine wpAny_newObj_type (wpAny_pure ⟨_, rfl, "dict_keyiterator", _, ⟨_, Heap.get?_push_size _ rfl, rfl⟩, F.slot_dict_keyiterator_next.lookup, ?_⟩)
  simpa [rawInt, kitO] using q
def TestE (h₀ : Heap) (L : Addr) (m : Str → Option Value) (s₀ : Shared) (b : Bool) (led : List (Addr × Obj)) (ok : Bool) (s' : Shared) : Prop := ok = b ∧ ∃ h' tk', s' = { s₀ with heap := h', toks := tk' } ∧ Fr h₀ L h' m ∧ News h₀ L h' led
theorem TestE.intro {h₀ : Heap} {L : Addr} {m : Str → Option Value} {s₀ : Shared} {b ok : Bool} {led : List (Addr × Obj)} {h' : Heap} {tk' : Nat} (F : Fr h₀ L h' m) (N : News h₀ L h' led) (e : ok = b) : TestE h₀ L m s₀ b led ok { s₀ with heap := h', toks := tk' } := ⟨e, h', tk', rfl, F, N⟩
def TestH (w : World) (A : Around) (h₀ : Heap) (L : Addr) (m : Str → Option Value) (env : Env) (ct : Expr) (x : Str) (scope : Scope) (cl : List (Str × Addr)) (s : Shared) (news : List (Addr × Obj)) (keys : List Str) (p : Str → Bool) : Prop :=
  ∀ k t I oI C oC D oD m₂ h tk (E' : Value → Shared → Prop), k ∈ keys → NsObj oC m₂ → m₂ x = some (.str k t) → Fr h₀ L h m → News h₀ L h ((I, oI) :: (C, oC) :: (D, oD) :: news) → Off3 I C D news → ((@Ne Nat I C) ∧ (@Ne Nat I D) ∧ (@Ne Nat C D)) →
    wpAny (model PP w) A (isTrue ct (compEnvC scope cl C env) (eval ct (compEnvC scope cl C env))) (TestE h₀ L m s (p k) ((I, oI) :: (C, oC) :: (D, oD) :: news)) E' { s with heap := h, toks := tk }
theorem take_snoc {α : Type} {l : List α} {i : Nat} {x : α} (h : l[i]? = some x) : l.take (i + 1) = l.take i ++ [x] := by
  rw [List.take_add_one, h]; rfl
theorem strs_snoc {y : Str} {t : Tok} : ∀ {vs : List Value} {ys : List Str}, StrsAre vs ys → StrsAre (vs ++ [.str y t]) (ys ++ [y])
  | _, _, .nil => .cons _ _ .nil
  | _, _, .cons x u r => .cons _ _ (strs_snoc r)
section
variable {w : World} {A : Around} {E : Value → Shared → Prop} {s : Shared} {h₀ : Heap} {L : Addr} {m : Str → Option Value} {env : Env} {ct iter : Expr} {x : Str} {px px2 : Pos} {scope : Scope} {cl : List (Str × Addr)} {keys : List Str} {p : Str → Bool}
theorem rest_filter {news : List (Addr × Obj)} {S : List (Addr × Obj) → Prop} {Fin : List Value → List (Addr × Obj) → Prop} (hkind : scope.kind = .function) (hx : scope.names.lookup x = some .local) (hd : (x == ("__debug__" : Str)) = false)
    (T : TestH w A h₀ L m env ct x scope cl s news keys p) (hS : S news) (fin : ∀ ys, StrsAre ys (keys.filter p) → Fin ys news) :
    ∀ (j i : Nat) (ys : List Value), i + j = keys.length → StrsAre ys ((keys.take i).filter p) →
      CompRestT PP w A h₀ L m env ct (.Name x px) x scope cl s S (fun i v => ∃ k t, keys[i]? = some k ∧ v = .str k t) Fin j i ys news
  | 0, i, ys, hij, hys => CompRestT.zero (fin ys (by rwa [List.take_of_length_le (by omega)] at hys))
  | j + 1, i, ys, hij, hys => by
    refine CompRestT.succ fun v I oI C oC D m₂ h tk E' hv hC hx2 F N off ne => ?_
    obtain ⟨k, t, hk, rfl⟩ := hv
    refine wpAny_mono (T k t I oI C oC D (lst ys) m₂ h tk E' (List.mem_of_getElem? hk) hC hx2 F N off ne) (fun ok s' hok => ?_) fun _ _ e => e
    obtain ⟨rfl, h', tk', rfl, F', N'⟩ := hok
    have zC := (N' (C, oC) (.tail _ (.head _))).1
    cases hp : p k with
    | true =>
      simp only [if_true]
      refine wpAny_Name (wpAny_loadName_local (by simp [compEnvC, relabel, hkind]) (lookup_relabel_local hx) (hC.ns zC) hx2 ?_) hd
      refine CompEnd.intro F' N' news (fun p hp => hp) off hS ?_
      refine rest_filter hkind hx hd T hS fin j (i + 1) _ (by omega) ?_
      rw [take_snoc hk, List.filter_append, List.filter_cons, if_pos hp]
      exact strs_snoc hys
    | false =>
      simp only [Bool.false_eq_true, if_false]
      refine CompEnd.intro F' N' news (fun p hp => hp) off hS ?_
      refine rest_filter hkind hx hd T hS fin j (i + 1) _ (by omega) ?_
      rw [take_snoc hk, List.filter_append, List.filter_cons, if_neg (by rw [hp]; exact Bool.false_ne_true), List.filter_nil, List.append_nil]
      exact hys
/-- what the comprehension's iterable has to be -/
def FSrc (w : World) (A : Around) (h₀ : Heap) (L : Addr) (m : Str → Option Value) (env : Env) (ct : Expr) (x : Str) (scope : Scope) (cl : List (Str × Addr)) (Fin : Shared → List Value → List (Addr × Obj) → Prop) (xv : Value) (s₁ : Shared) : Prop :=
  ∃ (d : Addr) (od : Obj) (es : List DictEntry) (ep : Nat) (c : Ents) (news : List (Addr × Obj)) (p : Str → Bool), A.handled = none ∧ Fr h₀ L s₁.heap m ∧ News h₀ L s₁.heap news ∧ (d, od) ∈ news ∧ od.data = .dict es.toArray ep ∧ EK w es c ∧ c.length ≤ 1000 ∧
    (∀ (E : Value → Shared → Prop) (Q : Value → Shared → Prop), Q (.ref s₁.heap.objs.size) { s₁ with heap := s₁.heap.push (kitO d 0 es.toArray.size ep) } → wpAny (model PP w) A (pyIter xv) Q E s₁) ∧
    TestH w A h₀ L m env ct x scope cl s₁ news (c.map (·.1)) p ∧ ∀ ys, StrsAre ys ((c.map (·.1)).filter p) → Fin s₁ ys news
theorem FSrc.view {Fin : Shared → List Value → List (Addr × Obj) → Prop} {vw d dx : Addr} {es : List DictEntry} {n : Nat} {c : Ents} {news : List (Addr × Obj)} {p : Str → Bool} (hh : A.handled = none) (F : Fr h₀ L s.heap m) (N : News h₀ L s.heap news)
    (hv : (vw, viewO "dict_keys" d) ∈ news) (hp : (d, cdObj dx es n) ∈ news) (hE : EK w es c) (hz : c.length ≤ 1000) (T : TestH w A h₀ L m env ct x scope cl s news (c.map (·.1)) p) (fin : ∀ ys, StrsAre ys ((c.map (·.1)).filter p) → Fin s ys news) :
    FSrc w A h₀ L m env ct x scope cl Fin (.ref vw) s :=
  ⟨d, _, es, n, c, news, p, hh, F, N, hp, rfl, hE, hz, fun E Q q => by
    obtain ⟨hp', g, dr, tk, os⟩ := s
    exact iter_keysV (N _ hv).1 ⟨_, (N _ hp).1, rfl⟩ q, T, fin⟩
theorem FSrc.dict {Fin : Shared → List Value → List (Addr × Obj) → Prop} {d : Addr} {es : List DictEntry} {n : Nat} {c : Ents} {news : List (Addr × Obj)} {p : Str → Bool} (hh : A.handled = none) (F : Fr h₀ L s.heap m) (N : News h₀ L s.heap news)
    (hp : (d, dictOf es n) ∈ news) (hE : EK w es c) (hn : (c.map (·.1)).Nodup) (hz : c.length ≤ 1000) (lo : (d == sysModules) = false) (T : TestH w A h₀ L m env ct x scope cl s news (c.map (·.1)) p) (fin : ∀ ys, StrsAre ys ((c.map (·.1)).filter p) → Fin s ys news) :
    FSrc w A h₀ L m env ct x scope cl Fin (.ref d) s :=
  ⟨d, _, es, n, c, news, p, hh, F, N, hp, rfl, hE, hz, fun E Q q => by
    refine wpAny_pyIter_dict lo (dictAt_EK (N _ hp).1 hE hn) ?_
    have e : (kvsOf es c).length = es.toArray.size := by rw [kvs_len hE, List.size_toArray, EK.length hE]
    rw [e]
    exact q, T, fin⟩
theorem fsrc_block {elt : Expr} {pos : Pos} {I : Addr} {RR : Value → Addr → Result → Shared → Prop} {Fin : List Value → List (Addr × Obj) → Prop} {d : Addr} {od : Obj} {es : List DictEntry} {ep : Nat} {c : Ents} {news : List (Addr × Obj)}
    (hh : A.handled = none) (F : Fr h₀ L s.heap m) (N : News h₀ L s.heap news) (hd : (d, od) ∈ news) (hdat : od.data = .dict es.toArray ep) (hE : EK w es c) (hz : c.length ≤ 1000)
    (hcell : ∀ y ∈ scope.names, y.2 ≠ .cell) (hkind : scope.kind = .function) (hx : scope.names.lookup x = some .local) (hdb : (x == ("__debug__" : Str)) = false)
    (T : TestH w A h₀ L m env ct x scope cl s news (c.map (·.1)) p) (fin : ∀ ys, StrsAre ys ((c.map (·.1)).filter p) → Fin ys news)
    (hRR : ∀ D C h tk m' ys news', Fr h₀ L h m → News h₀ L h ((D, lst ys) :: news') → Off1 D news' → h.Ns C m' → h₀.get? C = none → h₀.get? D = none → C ≠ L → D ≠ L → C ≠ D → (∀ p ∈ news', p.1 ≠ C) → Fin ys news' → RR (.ref D) C (.ok .next) { s with heap := h, toks := tk }) :
    wpAny (model PP w) A (newList []) (fun acc s₃ => wpAny (model PP w) A (newFunctionEnv scope env.globals cl [] env.qual none .none (some env)) (fun cenv s₄ =>
      codeAny (model PP w) A (.compStart (.ListComp (.Name x px2) [⟨.Name x px, iter, [ct], 0⟩] scope pos) 0 (.ref s.heap.objs.size) acc { cenv with scope := relabel scope env }) (RR acc cenv.locals) s₄) E s₃) E { s with heap := s.heap.push (kitO d 0 es.toArray.size ep) } := by
  have hd1 := (N _ hd).1
  have hdI : d ≠ s.heap.objs.size := Nat.ne_of_lt (Heap.lt_size hd1)
  have up : ∀ b o, s.heap.get? b = some o → (s.heap.push (kitO d 0 es.toArray.size ep)).get? b = some o := fun b o e => Heap.get?_push_of_some _ e
  have hlen : es.toArray.size = c.length := by rw [List.size_toArray, EK.length hE]
  have W := told_walks (w := w) hh s.heap.objs.size d hdI es ep
  have W' : Walks PP w A s.heap.objs.size [s.heap.objs.size, d] [s.heap.objs.size] es.toArray.size (fun i v => ∃ k t, (c.map (·.1))[i]? = some k ∧ v = .str k t) (fun i h => h.get? s.heap.objs.size = some (kitO d i es.toArray.size ep) ∧ VD h d es.toArray ep) :=
    ⟨W.sub, W.frame, fun i s' Q E' hi st hQ => W.item i s' Q E' hi st fun v h' tk hv st' k => hQ v h' tk (by
      obtain ⟨e, he, rfl⟩ := hv
      obtain ⟨q, hq⟩ : ∃ q, c[i]? = some q := ⟨c[i]'(by omega), List.getElem?_eq_getElem (by omega)⟩
      obtain ⟨e', he', ⟨t, ht⟩, _⟩ := EK.at hE hq
      rw [he] at he'
      obtain rfl := Option.some.inj he'
      exact ⟨q.1, t, by rw [List.getElem?_map, hq]; rfl, ht⟩) st' k, W.done, W.self⟩
  refine block_T (S := fun nw => (d, od) ∈ nw) (Fin := Fin) W' (by rw [hlen, sizeLine_eq]; omega) (fun i h st => ⟨_, st.1⟩) (fun i h h' o nw st e e' k N' S' => ?_) hcell hkind hx ⟨Heap.get?_push_size _ rfl, ⟨od, up _ _ hd1, hdat⟩⟩ (fun b hb => ?_)
    (F.keeps up) (N.grown up) (Nat.ne_of_lt F.ns.lt) (next_is_new F) (fun p hp => Nat.ne_of_lt (Heap.lt_size (N p hp).1)) hd ?_ hRR
  · have e1 := st.1
    rw [e] at e1
    exact ⟨e'.trans e1, ⟨od, (N' _ S').1, hdat⟩⟩
  · show b < (s.heap.push _).objs.size
    rw [Heap.size_push]
    rcases List.mem_cons.mp hb with rfl | hb
    · exact Nat.lt_succ_self _
    · rw [List.mem_singleton.mp hb]; exact Nat.lt_succ_of_lt (Heap.lt_size hd1)
  · refine rest_filter (s := { s with heap := s.heap.push (kitO d 0 es.toArray.size ep) }) (S := fun nw => (d, od) ∈ nw) (px := px2) (news := news) (keys := c.map (·.1)) (p := p) hkind hx hdb (fun k t I oI C oC D oD m₂ h tk E' h1 h2 h3 h4 h5 h6 h7 => T k t I oI C oC D oD m₂ h tk E' h1 h2 h3 h4 h5 h6 h7) hd fin es.toArray.size 0 [] (by rw [hlen, List.length_map]; omega) (by simpa using StrsAre.nil)
theorem lc_filter {Q : Value → Shared → Prop} {pos : Pos} (_F₀ : Fr h₀ L s.heap m)
    (hclos : closureFor scope env = pure cl) (hcell : ∀ y ∈ scope.names, y.2 ≠ .cell) (hkind : scope.kind = .function)
    (hnames : ∀ y ∈ scope.names, y.2 = .local → scope.names.lookup y.1 = some .local) (hx : scope.names.lookup x = some .local) (hdb : (x == ("__debug__" : Str)) = false)
    (h : wpAny (model PP w) A (eval iter env) (FSrc w A h₀ L m env ct x scope cl (fun s₂ => FinE h₀ L m s₂ Q)) E s)
    (hs : ∀ x, foldedSetIterable iter env x = pure x := by intro _; rfl) :
    wpAny (model PP w) A (eval (.ListComp (.Name x px2) [⟨.Name x px, iter, [ct], 0⟩] scope pos) env) Q E s := by
  rw [eval_ListComp]
  refine wpAny_comprehension_free (use := none) rfl hs hclos hkind hnames (wpAny_mono h (fun xv s₁ h₁ => ?_) fun _ _ e => e)
  obtain ⟨d, od, es, ep, c, news, p, hh, F, N, hd, hdat, hE, hz, it, T, fin⟩ := h₁
  refine it E _ (fsrc_block (I := 0) (elt := .Name x px2) hh F N hd hdat hE hz hcell hkind hx hdb T fin fun D C h tk m' ys news' F' N' o1 hn hC₀ hD₀ hCL hDL hCD offC hf => ?_)
  refine ⟨m', hn, fun h'' hs'' => hf D h'' tk (F'.change hs'' hCL hC₀) (fun q hq => ⟨hs''.extBut _ _ ?_ (N' q hq).1, (N' q hq).2⟩) o1⟩
  rcases List.mem_cons.mp hq with rfl | hq
  · exact Ne.symm hCD
  · exact offC q hq
theorem lc_filterA {y : Str} {py : Pos} {Q : Flow → Shared → Prop} {pos spos : Pos} (_F₀ : Fr h₀ L s.heap m) (hLe : env.locals = L)
    (hsw : swapsWith (.ListComp (.Name x px2) [⟨.Name x px, iter, [ct], 0⟩] scope pos) (some (.Name y py)) spos.line env = pure true)
    (hclos : closureFor scope env = pure cl) (hcell : ∀ z ∈ scope.names, z.2 ≠ .cell) (hkind : scope.kind = .function)
    (hnames : ∀ z ∈ scope.names, z.2 = .local → scope.names.lookup z.1 = some .local) (hx : scope.names.lookup x = some .local) (hdb : (x == ("__debug__" : Str)) = false)
    (hy : env.kindOf y = some .local) (hp : (env.scope.kind == .class || (env.scope.kind == .module && env.locals != env.globals)) = false)
    (h : wpAny (model PP w) A (eval iter env) (FSrc w A h₀ L m env ct x scope cl (fun s₂ => FinA h₀ L m s₂ y Q)) E s)
    (hs : ∀ x, foldedSetIterable iter env x = pure x := by intro _; rfl) :
    wpAny (model PP w) A (exec (.Assign [.Name y py] (.ListComp (.Name x px2) [⟨.Name x px, iter, [ct], 0⟩] scope pos) spos) env) Q E s := by
  subst hLe
  rw [exec_Assign_Name_used _ _ _ _ hsw]
  refine wpAny_bind (wpAny_standAt (wpAny_bind ?_))
  show wpAny _ A (do let _ ← comprehension (.ListComp (.Name x px2) [⟨.Name x px, iter, [ct], 0⟩] scope pos) scope env _ (newList []) false (eval iter env) (some (assign (.Name y py) env))) _ _ s
  refine wpAny_bind (wpAny_mono (wpAny_comprehension_free (use := some (assign (.Name y py) env)) (Q := fun _ s' => Q .next s') rfl hs hclos hkind hnames
    (wpAny_mono h (fun xv s₁ h₁ => ?_) fun _ _ e => e)) (fun _ s' hq => wpAny_pure (wpAny_pure hq)) fun _ _ e => e)
  obtain ⟨d, od, es, ep, c, news, p, hh, F, N, hd, hdat, hE, hz, it, T, fin⟩ := h₁
  refine it E _ (fsrc_block (I := 0) (elt := .Name x px2) hh F N hd hdat hE hz hcell hkind hx hdb T fin fun D C h tk m' ys news' F' N' o1 hn hC₀ hD₀ hCL hDL hCD offC hf => ?_)
  show wpAny _ A (assign (.Name y py) env (.ref D)) _ _ _
  refine wpAny_assign_Name (wpAny_storeName_local hy F'.ns (fun h₂ hn₂ hs₂ => ?_) hp)
  have hL₀ : h₀.get? env.locals = none := Heap.get?_none_of_le F'.above
  have F₂ : Fr h₀ env.locals h₂ (fun z => if z = y then some (.ref D) else m z) := ⟨hn₂, fun b o e => hs₂.extBut b o (fun q => by rw [q, hL₀] at e; cases e) (F'.keep b o e), F'.above⟩
  refine ⟨m', hn.sameBut hs₂ hCL, fun h'' hs'' => hf D h'' _ (F₂.change hs'' hCL hC₀) (fun q hq => ?_) o1⟩
  have z : h₂.get? q.1 = some q.2 := hs₂.extBut _ _ (N' q hq).2.1 (N' q hq).1
  refine ⟨hs''.extBut _ _ ?_ z, (N' q hq).2⟩
  rcases List.mem_cons.mp hq with rfl | hq
  · exact Ne.symm hCD
  · exact offC q hq
end
end Mine
end
section
open PySem PySem.W PyProof.Rows PySem.Calls PyProof.Rows.LCg
set_option maxRecDepth 100000
set_option maxHeartbeats 8000000
theorem Mine.walkResetS40 : True := by w_top off; trivial
namespace Mine
-- comprehensions over enumerate(list)
structure EnSep (h₀ : Heap) (L e it l C : Addr) (news : List (Addr × Obj)) : Prop where
  ei : e ≠ it
  le : l ≠ e
  li : l ≠ it
  Ce : C ≠ e
  Ci : C ≠ it
  Cl : C ≠ l
  CL : C ≠ L
  Le : L ≠ e
  Li : L ≠ it
  e0 : h₀.get? e = none
  i0 : h₀.get? it = none
  C0 : h₀.get? C = none
  off : ∀ q ∈ news, q.1 ≠ e ∧ q.1 ≠ it ∧ q.1 ≠ C
structure EnInv (h₀ : Heap) (L : Addr) (m : Str → Option Value) (e it l C : Addr) (items : Array Value) (news : List (Addr × Obj)) (mC : Str → Option Value) (i : Nat) (h : Heap) : Prop where
  st : (∃ old, IsEnum h e it i old) ∧ h.IsListIter it l i ∧ h.IsList l items
  F : Fr h₀ L h m
  ns : h.Ns C mC
  N : News h₀ L h news
section
variable {w : World} {A : Around} {E : Value → Shared → Prop} {s : Shared} {h₀ : Heap} {L e it l C : Addr} {m mC : Str → Option Value} {items : Array Value} {news : List (Addr × Obj)} {i : Nat}
theorem EnInv.move {h h' : Heap} (S : EnSep h₀ L e it l C news) (I : EnInv h₀ L m e it l C items news mC i h) (k : ∀ b o, b ∉ [e, it] → b ≠ C → h.get? b = some o → h'.get? b = some o)
    {j : Nat} {mC' : Str → Option Value} (st : (∃ old, IsEnum h' e it j old) ∧ h'.IsListIter it l j ∧ h'.IsList l items) (ns : h'.Ns C mC') : EnInv h₀ L m e it l C items news mC' j h' where
  st := st
  F := ⟨I.F.ns.at' fun o x => k L o (by simp [S.Le, S.Li]) (Ne.symm S.CL) x, fun b o x => k b o (by
      intro hb
      rcases List.mem_cons.mp hb with rfl | hb
      · rw [S.e0] at x; cases x
      · rw [List.mem_singleton.mp hb, S.i0] at x; cases x) (fun q => by rw [q, S.C0] at x; cases x) (I.F.keep b o x), I.F.above⟩
  ns := ns
  N := fun q hq => ⟨k _ _ (by simp [(S.off q hq).1, (S.off q hq).2.1]) (S.off q hq).2.2 (I.N q hq).1, (I.N q hq).2⟩
theorem enum_turn {env : Env} {a b : Str} {pa pb tp : Pos} {kk : Nat} {P : Shared → Prop} {Q : Shared → Prop} {E2 E3 : Value → Shared → Prop} (hh : A.handled = none) (hC : env.locals = C) (S : EnSep h₀ L e it l C news) (I : EnInv h₀ L m e it l C items news mC i s.heap)
    (ha : env.kindOf a = some .local) (hb : env.kindOf b = some .local) (hp : (env.scope.kind == .class || (env.scope.kind == .module && env.locals != env.globals)) = false)
    {x : Value} (hx : items[i]? = some x)
    (q : ∀ h' tk t, EnInv h₀ L m e it l C items news (fun z => if z = b then some x else if z = a then some (.int i t) else mC z) (i + 1) h' → Q { s with heap := h', toks := tk }) :
    wpAny (model PP w) A (pyNext (.ref e)) (fun r s₁ => match r with
      | none => P s₁
      | some v => wpAny (model PP w) A (letOwnedTupleGo (.Tuple [.Name a pa, .Name b pb] kk tp) (.ref e) v) (fun _ s₁' => wpAny (model PP w) A (assign (.Tuple [.Name a pa, .Name b pb] kk tp) env v) (fun _ s₂ => Q s₂) E3 s₁') E2 s₁) E s := by
  subst hC
  have W := WalksT.enumerate (prog := PP) (w := w) hh e it l S.ei S.le S.li items
  have hi : i < items.size := by
    rcases Nat.lt_or_ge i items.size with h | h
    · exact h
    · rw [Array.getElem?_eq_none h] at hx; cases hx
  refine W.item i s _ _ hi I.st fun T vals h1 tk1 hP hT ht hM k1 => ?_
  obtain ⟨t, x', hx', rfl⟩ := hP
  rw [hx] at hx'
  obtain rfl := Option.some.inj hx'
  refine W.go _ _ _ i T _ _ _ hM fun h2 st2 k2 => ?_
  have hTw := W.apart _ _ _ hM
  have ht2 : h2.IsTuple T #[.int i t, x] := by
    obtain ⟨o, ho, hc, r⟩ := ht
    exact ⟨o, k2 T o hTw ho, hc, r⟩
  have hCw : env.locals ∉ [e, it] := by simp [S.Ce, S.Ci]
  refine kcp_assign (m := mC) hh ht2 ha hb hp ((I.ns.at' fun o y => k1 _ o hCw y).at' fun o y => k2 _ o hCw y) fun h3 tk3 hn3 k3 => ?_
  refine q h3 tk3 t (I.move S (fun b o hb hbC y => k3 b o hbC (k2 b o hb (k1 b o hb y))) (W.frame _ _ _ st2 fun b hb o y => k3 b o (fun z => ?_) y) hn3)
  subst z
  rcases List.mem_cons.mp hb with hb | hb
  · exact S.Ce hb
  · rcases List.mem_cons.mp hb with hb | hb
    · exact S.Ci hb
    · exact S.Cl (List.mem_singleton.mp hb)
theorem enum_end {Q : Option Value → Shared → Prop} (hh : A.handled = none) (S : EnSep h₀ L e it l C news) (I : EnInv h₀ L m e it l C items news mC items.size s.heap)
    (q : ∀ h' tk, Fr h₀ L h' m → News h₀ L h' news → h'.Ns C mC → Q none { s with heap := h', toks := tk }) : wpAny (model PP w) A (pyNext (.ref e)) Q E s := by
  have W := WalksT.enumerate (prog := PP) (w := w) hh e it l S.ei S.le S.li items
  refine W.done s _ _ I.st fun h' tk k => ?_
  refine q h' tk ⟨I.F.ns.at' fun o x => k L o (by simp [S.Le, S.Li]) x, fun b o x => k b o (fun hb => ?_) (I.F.keep b o x), I.F.above⟩ (fun p hp => ⟨k _ _ (by simp [(S.off p hp).1, (S.off p hp).2.1]) (I.N p hp).1, (I.N p hp).2⟩) (I.ns.at' fun o x => k C o (by simp [S.Ce, S.Ci]) x)
  rcases List.mem_cons.mp hb with rfl | hb
  · rw [S.e0] at x; cases x
  · rw [List.mem_singleton.mp hb, S.i0] at x; cases x
end
section
variable {w : World} {A : Around} {R : Result → Shared → Prop} {s : Shared}
theorem enumD_loop {kx vx target iter : Expr} {scope : Scope} {pos : Pos} {it : Value} {D : Addr} {env : Env} (I : Nat → Shared → Prop)
    (turn : ∀ n s, I n s → wpAny (model PP w) A (pyNext it) (fun r s₁ => match r with
      | none => R (.ok .next) s₁
      | some v => wpAny (model PP w) A (letOwnedTupleGo target it v) (fun _ s₁' => wpAny (model PP w) A (assign target env v) (fun _ s₂ =>
          wpAny (model PP w) A (eval kx env) (fun kv s₄ => wpAny (model PP w) A (eval vx env) (fun vv s₅ =>
            wpAny (model PP w) A (dictSet D kv vv) (fun _ s₆ => ∃ m, m < n ∧ I m s₆) (notedBy (model PP w) A env fun e s' => R (.error e) s') s₅) (notedBy (model PP w) A env fun e s' => R (.error e) s') s₄) (notedBy (model PP w) A env fun e s' => R (.error e) s') s₂)
          (notedBy (model PP w) A env fun e s' => R (.error e) s') s₁') (notedBy (model PP w) A env fun e s' => R (.error e) s') s₁) (notedBy (model PP w) A env fun e s' => R (.error e) s') s)
    (n : Nat) (h : I n s) : codeAny (model PP w) A (.compLoop (.DictComp kx vx [⟨target, iter, [], 0⟩] scope pos) 0 it (.ref D) env) R s := by
  refine codeAny_loop rfl I (fun n s hI => ?_) n h
  show wpAny _ A ((compTurn (.DictComp kx vx [⟨target, iter, [], 0⟩] scope pos) 0 it (.ref D) env).onRaise (fun x => do noteFrame x env; theTreesLotGoes x)) _ _ s
  refine wpAny_noted ?_
  rw [compTurn_dict]
  refine wpAny_bind (wpAny_standAt (wpAny_bind (wpAny_mono (turn n s hI) (fun r s₁ h₁ => ?_) fun _ _ z => z)))
  match r, h₁ with
  | none, h₁ => exact wpAny_pure h₁
  | some v, h₁ =>
    refine wpAny_bind (wpAny_mono h₁ (fun _ s₂ h₂ => wpAny_bind (wpAny_mono h₂ (fun _ s₃ h₃ => wpAny_bind (wpAny_tests_nil ?_)) fun _ _ z => z)) fun _ _ z => z)
    exact wpAny_bind (wpAny_bind (wpAny_mono h₃ (fun kv s₄ h₄ => wpAny_bind (wpAny_holding (wpAny_mono h₄ (fun vv s₅ h₅ => wpAny_bind (wpAny_standAt (wpAny_holding (wpAny_mono h₅ (fun _ s₆ h₆ => wpAny_pure ⟨rfl, h₆⟩) fun _ _ z => z)))) fun _ _ z => z))) fun _ _ z => z))
end
noncomputable def mapO : Ents → Nat → List Str → Ents
  | c, _, [] => c
  | c, i, x :: xs => mapO (cput c x i) (i + 1) xs
theorem cput_len (c : Ents) (u : Str) (v : Int) : (cput c u v).length ≤ c.length + 1 := by
  unfold cput
  split
  · rw [List.length_modify]; omega
  · rw [List.length_append]; simp
end Mine
end
section
open PySem PySem.W PyProof.Rows PySem.Calls PyProof.Rows.LCg
set_option maxRecDepth 100000
set_option maxHeartbeats 8000000
theorem Mine.walkResetS41 : True := by w_top off; trivial
namespace Mine
section
variable {w : World} {A : Around} {E : Value → Shared → Prop} {s : Shared} {h₀ : Heap} {L : Addr} {m : Str → Option Value} {env : Env}
/-- an enumerate over a list of texts, not yet asked -/
def ESrc (A : Around) (h₀ : Heap) (L : Addr) (m : Str → Option Value) (Fin : Shared → List Value → List Str → List (Addr × Obj) → Prop) (xv : Value) (s₁ : Shared) : Prop :=
  ∃ (e it l : Addr) (n : Nat) (vs : List Value) (xs : List Str) (news : List (Addr × Obj)), xv = .ref e ∧ A.handled = none ∧ e ≠ it ∧ l ≠ e ∧ l ≠ it ∧ L ≠ e ∧ L ≠ it ∧ h₀.get? e = none ∧ h₀.get? it = none ∧ (∀ q ∈ news, q.1 ≠ e ∧ q.1 ≠ it) ∧
    Fr h₀ L s₁.heap m ∧ News h₀ L s₁.heap news ∧ IsEnum s₁.heap e it 0 .none ∧ s₁.heap.IsListIter it l 0 ∧ (l, listOf (List.toArray vs) n) ∈ news ∧ StrsAre vs xs ∧ xs.length ≤ 900 ∧ Fin s₁ vs xs news
theorem ESrc.intro {Fin : Shared → List Value → List Str → List (Addr × Obj) → Prop} {l : Addr} {n : Nat} {vs : List Value} {xs : List Str} {news : List (Addr × Obj)} (hh : A.handled = none) (F : Fr h₀ L s.heap m) (N : News h₀ L s.heap news)
    (hl : (l, listOf (List.toArray vs) n) ∈ news) (hS : StrsAre vs xs) (hz : xs.length ≤ 900) (fin : ∀ h', Fin { s with heap := h' } vs xs news) :
    wpAny (model PP w) A (call (.type "enumerate") [.ref l]) (ESrc A h₀ L m Fin) E s := by
  refine call_enumerate_list (News.isList N hl) fun h' hE hI hsz hk => ?_
  have hlt : l < s.heap.objs.size := Heap.lt_size (N _ hl).1
  have hL : L < s.heap.objs.size := F.ns.lt
  have f0 : ∀ a, s.heap.objs.size ≤ a → h₀.get? a = none := fun a ha => Heap.get?_none_of_le (Nat.le_trans F.above (Nat.le_trans (Nat.le_of_lt hL) ha))
  exact ⟨_, _, l, n, vs, xs, news, rfl, hh, Nat.succ_ne_self _, Nat.ne_of_lt (Nat.lt_succ_of_lt hlt), Nat.ne_of_lt hlt, Nat.ne_of_lt (Nat.lt_succ_of_lt hL), Nat.ne_of_lt hL, f0 _ (Nat.le_succ _), f0 _ (Nat.le_refl _),
    (fun q hq => ⟨Nat.ne_of_lt (Nat.lt_succ_of_lt (Heap.lt_size (N q hq).1)), Nat.ne_of_lt (Heap.lt_size (N q hq).1)⟩), F.keeps hk, (fun p hp => ⟨hk _ _ (N p hp).1, (N p hp).2⟩), hE, hI, hl, hS, hz, fin h'⟩
theorem EnInv.set {h h' : Heap} {e it l C D : Addr} {items : Array Value} {news : List (Addr × Obj)} {mC : Str → Option Value} {i : Nat} {o o' : Obj} (I : EnInv h₀ L m e it l C items ((D, o) :: news) mC i h) (hs : Heap.SameBut D h h') (ho : h'.get? D = some o')
    (De : e ≠ D) (Di : it ≠ D) (Dl : l ≠ D) (DC : C ≠ D) (off : ∀ q ∈ news, q.1 ≠ D) : EnInv h₀ L m e it l C items ((D, o') :: news) mC i h' where
  st := ⟨let ⟨x, y⟩ := I.st.1; ⟨x, hs.extBut _ _ De y⟩, I.st.2.1.at fun o x => hs.extBut _ o Di x, I.st.2.2.at fun o x => hs.extBut _ o Dl x⟩
  F := I.F.change hs (I.N _ (.head _)).2.1 (I.N _ (.head _)).2.2
  ns := I.ns.sameBut hs DC
  N := fun q hq => by
    rcases List.mem_cons.mp hq with rfl | hq
    · exact ⟨ho, (I.N (D, o) (.head _)).2⟩
    · have := I.N q (.tail _ hq)
      exact ⟨hs.extBut _ _ (off q hq) this.1, this.2⟩
theorem dc_enum {Q : Value → Shared → Prop} {iter : Expr} {a b : Str} {pa pb pa2 pb2 tp : Pos} {kk : Nat} {scope : Scope} {cl : List (Str × Addr)} {pos : Pos} (_F₀ : Fr h₀ L s.heap m) (hb : h₀.NoLimit)
    (hclos : closureFor scope env = pure cl) (hcell : ∀ y ∈ scope.names, y.2 ≠ .cell) (hkind : scope.kind = .function)
    (hnames : ∀ y ∈ scope.names, y.2 = .local → scope.names.lookup y.1 = some .local) (hxa : scope.names.lookup a = some .local) (hxb : scope.names.lookup b = some .local) (hab : a ≠ b) (hda : (a == ("__debug__" : Str)) = false) (hdb : (b == ("__debug__" : Str)) = false)
    (h : wpAny (model PP w) A (eval iter env) (ESrc A h₀ L m fun s₁ _ xs news => ∀ D h' tk es n, Fr h₀ L h' m → News h₀ L h' ((D, dictOf es n) :: news) → Off1 D news → EK w es (mapO [] 0 xs) → (D == sysModules) = false → Q (.ref D) { s₁ with heap := h', toks := tk }) E s)
    (hs : ∀ x, foldedSetIterable iter env x = pure x := by intro _; rfl) :
    wpAny (model PP w) A (eval (.DictComp (.Name b pb2) (.Name a pa2) [⟨.Tuple [.Name a pa, .Name b pb] kk tp, iter, [], 0⟩] scope pos) env) Q E s := by
  rw [arm_eval_DictComp]
  refine wpAny_comprehension_free (use := none) rfl hs hclos hkind hnames (wpAny_mono h (fun xv s₁ h₁ => ?_) fun _ _ e => e)
  obtain ⟨e, it, l, n, vs, xs, news, rfl, hh, ei, le, li, Le, Li, e0, i0, off, F, N, hE, hI, hl, hS, hz, fin⟩ := h₁
  refine wpAny_pyIter_enum hE ?_
  have hvl : vs.length = xs.length := StrsAre.length hS
  refine wpAny_newObj_type (wpAny_newFunctionEnv hcell (by intro y hy; simp at hy) (fun h₁ hns₁ hsb₁ => ?_) hkind)
  dsimp only at hns₁ hsb₁ ⊢
  generalize hH2 : s₁.heap.push { cls := .type "dict", dict := none, data := .dict #[] } = H2 at hns₁ hsb₁ ⊢
  have hC : H2.objs.size = s₁.heap.objs.size + 1 := by rw [← hH2, Heap.size_push]
  have hDC : s₁.heap.objs.size ≠ H2.objs.size := by rw [hC]; exact Nat.ne_of_lt (Nat.lt_succ_self _)
  have below : ∀ b, b < s₁.heap.objs.size → b ≠ H2.objs.size ∧ b ≠ s₁.heap.objs.size := fun b hb => ⟨by rw [hC]; exact Nat.ne_of_lt (Nat.lt_succ_of_lt hb), Nat.ne_of_lt hb⟩
  have old : ∀ b o, s₁.heap.get? b = some o → h₁.get? b = some o := fun b o e => hsb₁.extBut b o (below b (Heap.lt_size e)).1 (Heap.get?_push_of_some _ (hH2 ▸ Heap.get?_push_of_some _ e))
  have hacc : h₁.get? s₁.heap.objs.size = some (dictOf [] 0) := hsb₁.extBut _ _ hDC (Heap.get?_push_of_some _ (hH2 ▸ Heap.get?_push_size _ rfl))
  have hlt := Heap.lt_size (N _ hl).1
  have hL : L < s₁.heap.objs.size := F.ns.lt
  have f0 : ∀ a, s₁.heap.objs.size ≤ a → h₀.get? a = none := fun a ha => Heap.get?_none_of_le (Nat.le_trans F.above (Nat.le_trans (Nat.le_of_lt hL) ha))
  have helt : e < s₁.heap.objs.size := Heap.lt_size hE
  have hilt : it < s₁.heap.objs.size := let ⟨_, x, _⟩ := hI; Heap.lt_size x
  have hnl : ∀ q ∈ news, q.1 < s₁.heap.objs.size := fun q hq => Heap.lt_size (N q hq).1
  have C0 := f0 H2.objs.size (by rw [hC]; exact Nat.le_succ _)
  have D0 := f0 _ (Nat.le_refl s₁.heap.objs.size)
  have S : ∀ o, EnSep h₀ L e it l H2.objs.size ((s₁.heap.objs.size, o) :: news) := fun o =>
    ⟨ei, le, li, Ne.symm (below _ helt).1, Ne.symm (below _ hilt).1, Ne.symm (below _ hlt).1, Ne.symm (below _ hL).1, Le, Li, e0, i0, C0, fun q hq => by
      rcases List.mem_cons.mp hq with rfl | hq
      · exact ⟨Ne.symm (below _ helt).2, Ne.symm (below _ hilt).2, hDC⟩
      · exact ⟨(off q hq).1, (off q hq).2, (below _ (hnl q hq)).1⟩⟩
  have I₀ : EnInv h₀ L m e it l H2.objs.size vs.toArray ((s₁.heap.objs.size, dictOf [] 0) :: news) _ 0 h₁ :=
    ⟨⟨⟨_, old _ _ hE⟩, hI.at fun o x => old _ o x, (News.isList N hl).at fun o x => old _ o x⟩, F.keeps old, hns₁, fun q hq => by
      rcases List.mem_cons.mp hq with rfl | hq
      · exact ⟨hacc, Ne.symm (below _ hL).2, D0⟩
      · exact ⟨old _ _ (N q hq).1, (N q hq).2⟩⟩
  have off1 : Off1 s₁.heap.objs.size news := (Off3.of (I := s₁.heap.objs.size) (C := s₁.heap.objs.size) fun p hp => ⟨Nat.ne_of_lt (hnl p hp), Nat.ne_of_lt (hnl p hp), Nat.ne_of_lt (hnl p hp)⟩).one
  have loop : ∀ s₃ : Shared, (∃ tk, s₃ = { s₁ with heap := h₁, toks := tk }) →
      codeAny (model PP w) A (.compLoop (.DictComp (.Name b pb2) (.Name a pa2) [⟨.Tuple [.Name a pa, .Name b pb] kk tp, iter, [], 0⟩] scope pos) 0 (.ref e) (.ref s₁.heap.objs.size) (compEnvC scope cl H2.objs.size env))
        (compPost (model PP w) A E none Q (.ref s₁.heap.objs.size) H2.objs.size) s₃ := by
    rintro s₃ ⟨tk, rfl⟩
    refine enumD_loop (fun k s' => ∃ h' tk i mC es n' c, s' = { s₁ with heap := h', toks := tk } ∧ i ≤ xs.length ∧ k = xs.length + 1 - i ∧ EnInv h₀ L m e it l H2.objs.size vs.toArray ((s₁.heap.objs.size, dictOf es n') :: news) mC i h' ∧
      EK w es c ∧ c.length ≤ i ∧ mapO c i (xs.drop i) = mapO [] 0 xs) ?_ (xs.length + 1) ⟨h₁, tk, 0, _, [], 0, [], rfl, Nat.zero_le _, rfl, I₀, trivial, Nat.le_refl _, rfl⟩
    rintro k s' ⟨h', tk, i, mC, es, n', c, rfl, hi, rfl, Iv, hEK, hcl, hm⟩
    by_cases hlti : i < xs.length
    · obtain ⟨t, hv⟩ := strs_getD hS i hlti
      have hx : vs.toArray[i]? = some (.str (xs.getD i noStr) t) := by
        rw [← hv, List.getElem?_toArray, List.getD_eq_getElem?_getD, List.getElem?_eq_getElem (by omega)]; rfl
      refine enum_turn (env := compEnvC scope cl H2.objs.size env) (a := a) (b := b) hh rfl (S _) Iv (lookup_relabel_local hxa) (lookup_relabel_local hxb) (by simp [compEnvC, relabel, hkind]) hx fun h2 tk2 t2 I2 => ?_
      refine wpAny_Name (wpAny_loadName_local (by simp [compEnvC, relabel, hkind]) (lookup_relabel_local hxb) I2.ns (by simp; rfl) ?_) hdb
      refine wpAny_Name (wpAny_loadName_local (by simp [compEnvC, relabel, hkind]) (lookup_relabel_local hxa) I2.ns (by simp [hab]; rfl) ?_) hda
      refine d_set (I2.N _ (.head _)).1 hEK (by omega) fun h3 es3 n3 hD3 hE3 sb => ?_
      refine ⟨xs.length + 1 - (i + 1), by omega, h3, _, i + 1, _, es3, n3, cput c (xs.getD i noStr) i, rfl, hlti, rfl, I2.set sb hD3 (below _ helt).2 (below _ hilt).2 (below _ hlt).2 (Ne.symm hDC) (fun q hq => Nat.ne_of_lt (hnl q hq)), hE3, ?_, ?_⟩
      · have := cput_len c (xs.getD i noStr) i; omega
      · rw [← hm]
        have hd : xs.drop i = xs.getD i noStr :: xs.drop (i + 1) := by
          rw [List.drop_eq_getElem_cons hlti, List.getD_eq_getElem?_getD, List.getElem?_eq_getElem hlti]; rfl
        rw [hd]; rfl
    · obtain rfl : i = xs.length := by omega
      have hsz : xs.length = vs.toArray.size := by rw [List.size_toArray, hvl]
      rw [hsz] at Iv
      refine enum_end hh (S _) Iv fun h2 tk2 F2 N2 ns2 => ?_
      rw [List.drop_length] at hm
      refine ⟨_, ns2, fun h3 sb => fin _ h3 tk2 es n' (F2.change sb (Ne.symm (below _ hL).1) C0) (fun q hq => ?_) off1 ?_ ?_⟩
      · refine ⟨sb.extBut _ _ ?_ (N2 q hq).1, (N2 q hq).2⟩
        rcases List.mem_cons.mp hq with rfl | hq
        · exact hDC
        · exact (below _ (hnl q hq)).1
      · rw [← hm]; exact hEK
      · exact F.notModules (modules_low hb)
  exact codeAny_compStart_dict (loop _ ⟨_, rfl⟩) (wpAny_pyIter_enum (old _ _ hE) (loop _ ⟨_, rfl⟩))
end
end Mine
end
section
open PySem PySem.W PyProof.Rows PySem.Calls
set_option maxRecDepth 100000
set_option maxHeartbeats 8000000
theorem Mine.walkResetS42 : True := by w_top off; trivial
namespace Mine
theorem strs_vals {vs : List Value} {xs : List Str} (hS : StrsAre vs xs) : vs.map strOf = xs := hS.strs
section
variable {w : World} {A : Around} {E : Value → Shared → Prop} {s : Shared} {h₀ : Heap} {L l : Addr} {m : Str → Option Value} {news : List (Addr × Obj)} {vs : List Value} {xs : List Str} {Q : Value → Shared → Prop}
theorem ln_sortedK {f : Addr} {k : Nat} (g : Str → Int) (F : Fr h₀ L s.heap m) (N : News h₀ L s.heap news) (hl : (l, listOf (List.toArray vs) k) ∈ news) (hS : StrsAre vs xs) (h5 : xs.length ≤ 5)
    (turn : ∀ x t h tk own, x ∈ xs → Fr h₀ L h m → News h₀ L h (news ++ own) → wpAny (model PP w) A.in1.in1 (call (.ref f) [.str x t]) (KskEnd h₀ L m (news ++ own) (g x) { s with heap := h, toks := tk }) (fun _ _ => False) { s with heap := h, toks := tk })
    (h : ∀ D h' tk vs' ys c, Fr h₀ L h' m → News h₀ L h' ((D, listOf (List.toArray vs') c) :: news) → (∀ q ∈ news, q.1 < D) → StrsAre vs' ys → ys.Perm xs → ys.Pairwise (fun x y => g x ≤ g y) → Q (.ref D) { s with heap := h', toks := tk }) :
    wpAny (model PP w) A (call (.builtin "sorted") [.ref l] [(Str.ofString "key", .ref f)]) Q E s := by
  have hlen : vs.length = xs.length := StrsAre.length hS
  refine ksk_sorted (kz := xs.map g) (b := false) F N (News.isList N hl) (by rw [List.length_map, hlen]) (by omega) (ksk_s1 _ _) (fun _ => ksk_l1 _ _) (fun _ => ksk_t1 _ _) (fun i v z hv hz h' tk own F' N' => ?_) fun D h' tk out c F' N' l1 ko => ?_
  · rw [List.getElem?_map] at hz
    obtain ⟨x, hx, rfl⟩ := Option.map_eq_some_iff.mp hz
    obtain ⟨t, ht⟩ := hS.get i x hx
    rw [ht] at hv
    obtain rfl := Option.some.inj hv
    exact turn x t h' tk own (List.mem_of_getElem? hx) F' N'
  · obtain ⟨ps, hp, ho, hs⟩ := ko
    have hsnd : (ps.map Prod.snd).Perm vs := by
      have := hp.map Prod.snd
      rwa [List.map_snd_zip (by rw [List.length_map]; omega)] at this
    have hrel : ∀ p ∈ ps, p.1 = g (strOf p.2) := by
      intro p hp'
      have h1 := hp.mem_iff.mp hp'
      have e : xs.map g = vs.map fun v => g (strOf v) := by rw [← hS.strs, List.map_map]; rfl
      rw [e, List.zip_map_left] at h1
      obtain ⟨⟨u, v⟩, hq, rfl⟩ := List.mem_map.mp h1
      have := (mem_zip_self hq).1
      simp only [Prod.map] at *
      rw [this]; rfl
    have ho' : out.toList = ps.map Prod.snd := ho
    refine h D h' tk out.toList ((ps.map Prod.snd).map strOf) c F' (by rw [Array.toArray_toList]; exact N') l1 ?_ ?_ ?_
    · rw [ho']
      exact strsAre_map _ fun v hv => hS.all v (hsnd.mem_iff.mp hv)
    · have := hsnd.map strOf
      rwa [hS.strs] at this
    · rw [List.pairwise_map, List.pairwise_map]
      refine hs.imp_of_mem fun {p q} hp' hq' hr => ?_
      have hr' : p.1 ≤ q.1 := by simpa using hr
      rw [hrel p hp', hrel q hq'] at hr'
      exact hr'
end
/-- the function's table of codes: empty, or with the one code in it -/
def TabSt (qual : Str) (ln cn : Nat) (ps : Array Value) (news : List (Addr × Obj)) : Prop := ps = #[] ∨ ∃ (c' : Addr) (oc : Obj) (vs : Array Value) (t : Tok), ps = #[rawInt ln, rawInt cn, .ref c'] ∧ (c', oc) ∈ news ∧ oc.data = .fields vs ∧ vs[1]? = some (.str qual t)
def TabNow (qual : Str) (ln cn : Nat) (ps : Array Value) (c' : Addr) (oc : Obj) : Prop := ∃ (vs : Array Value) (t : Tok), ps = #[rawInt ln, rawInt cn, .ref c'] ∧ oc.data = .fields vs ∧ vs[1]? = some (.str qual t)
theorem TabNow.st {qual : Str} {ln cn : Nat} {ps : Array Value} {c' : Addr} {oc : Obj} {news : List (Addr × Obj)} (h : TabNow qual ln cn ps c' oc) (hm : (c', oc) ∈ news) : TabSt qual ln cn ps news := by
  obtain ⟨vs, t, e, r⟩ := h
  exact .inr ⟨c', oc, vs, t, e, hm, r⟩
theorem TabNow.ne {qual : Str} {ln cn : Nat} {ps : Array Value} {c' P : Addr} {oc : Obj} {h₀ h : Heap} {L : Addr} {news : List (Addr × Obj)} (x : TabNow qual ln cn ps c' oc) (N : News h₀ L h news) (h1 : (c', oc) ∈ news) (h2 : (P, tabObj ps) ∈ news) : @Ne Nat c' P := fun e => by
  obtain ⟨vs, t, rfl, hd, hv⟩ := x
  have a := (N _ h1).1
  have b := (N _ h2).1
  have e' : c' = P := e
  dsimp only at a b
  rw [e'] at a
  have := a.symm.trans b
  obtain rfl := Option.some.inj this
  have hd' : Data.fields #[rawInt ln, rawInt cn, .ref c'] = .fields vs := hd
  obtain rfl := Data.fields.inj hd'
  simp [rawInt] at hv
theorem tab_up {qual : Str} {ln cn : Nat} {ps : Array Value} {rest news : List (Addr × Obj)} (h : TabSt qual ln cn ps rest) (hs : ∀ p ∈ rest, p ∈ news) : TabSt qual ln cn ps news := by
  rcases h with h | ⟨c', oc, vs, t, e, hm, r⟩
  · exact .inl h
  · exact .inr ⟨c', oc, vs, t, e, hs _ hm, r⟩
theorem lam_any {w : World} {A : Around} {E : Value → Shared → Prop} {s : Shared} {h₀ : Heap} {L a c P : Addr} {m mg mb : Str → Option Value} {cn : Str} {cs : Scope} {ccd : Value} {cl : List (Str × Addr)} {news : List (Addr × Obj)} {g : Obj → List (Addr × Obj)}
    {p : Program} {loose : List Str} {mean : ExcName → Option Value} {name qual : Str} {params : Arguments} {body : Expr} {scope : Scope} {ps : Array Value} {pos : Pos} {firstLine : Nat} {clos : List (Str × Addr)} {Q : Value → Shared → Prop}
    (F : Fr h₀ L s.heap m) (N : News h₀ L s.heap news) (T : Top p loose mean mg mb h₀) (C : CodeHd h₀ c P) (hcd : ccd = .ref c) (U : UpdF P (tabObj ps) news g) (hps : TabSt qual pos.line pos.col ps news)
    (hcl : closureFor scope (envX cn cs L a ccd cl) = pure clos)
    (h : ∀ f c' oc vs t ctv h' tk, Fr h₀ L h' m →
      News h₀ L h' ((f, kla_obj name qual params body scope clos ((mg "__name__").getD .none) c' ctv) :: (c', oc) :: g (tabObj #[rawInt pos.line, rawInt pos.col, .ref c'])) →
      oc.data = .fields vs → vs[1]? = some (.str qual t) → (∀ q ∈ news, q.1 < f) → Q (.ref f) { s with heap := h', toks := tk }) :
    wpAny (model PP w) A (makeFunction name qual params (.expr body) scope (envX cn cs L a ccd cl) [] [] [] pos firstLine) Q E s := by
  rcases hps with rfl | ⟨c', oc, vs, t, rfl, hm, hd, hv⟩
  · exact kla_nest F N T C hcd U trivial rfl hcl fun f c' oc vs t ctv h' tk F' N' e1 e2 l1 l2 => h f c' oc vs t ctv h' tk F' N' e1 e2 fun q hq => Nat.lt_trans (l1 q hq) l2
  · have hU : (P, tabObj #[rawInt pos.line, rawInt pos.col, .ref c']) ∈ news := by
      obtain ⟨pre, post, e, _⟩ := U.split
      rw [e]; exact List.mem_append_right _ (.head _)
    have hg : g (tabObj #[rawInt pos.line, rawInt pos.col, .ref c']) = news := by
      obtain ⟨pre, post, e1, e2, _⟩ := U.split
      rw [e1, e2]
    refine kla_hit (c' := c') F N T C hcd hU (by simp [TriplesOk, rawInt]) (by simp [codeAmong, rawInt]) hcl fun f ctv h' tk F' N' l1 => ?_
    refine h f c' oc vs t ctv h' tk F' (fun q hq => ?_) hd hv l1
    rcases List.mem_cons.mp hq with rfl | hq
    · exact N' _ (.head _)
    · rcases List.mem_cons.mp hq with rfl | hq
      · exact N' _ (.tail _ hm)
      · rw [hg] at hq; exact N' _ (.tail _ hq)
theorem kd_notin {w : World} {A : Around} {E : Value → Shared → Prop} {s : Shared} {h₀ : Heap} {L d : Addr} {news : List (Addr × Obj)} {es : List DictEntry} {n : Nat} {c : Ents} {u : Str} {t : Tok} {Q : Value → Shared → Prop} (N : News h₀ L s.heap news) (hp : (d, dictOf es n) ∈ news) (hE : EK w es c) (hds : (d == sysModules) = false)
    (h : Q (.bool (!(cget c u).isSome)) { s with toks := s.toks + 1 }) : wpAny (model PP w) A (compareOp .NotIn (.str u t) (.ref d)) Q E s := by
  show wpAny _ _ (contains (.ref d) (.str u t) >>= fun b => pure (Value.bool (!b))) _ _ _
  exact wpAny_bind (kd_contains N hp hE hds (wpAny_pure h))
theorem kd_itemS {w : World} {A : Around} {E : Value → Shared → Prop} {s : Shared} {h₀ : Heap} {L d : Addr} {news : List (Addr × Obj)} {es : List DictEntry} {n : Nat} {c : Ents} {u : Str} {t : Tok} {v : Int} {Q : Value → Shared → Prop} {value slice : PySem.Expr} (N : News h₀ L s.heap news) (hp : (d, dictOf es n) ∈ news) (hE : EK w es c) (hds : (d == sysModules) = false) (hA : A.handled = none)
    (hv : cget c u = some v) (h : ∀ t', Q (.int v t') { s with toks := s.toks + 1 })
    (hs : subscripted slice false (.ref d) (.str u t) = operate [.ref d, .str u t] (getItem (.ref d) (.str u t)) := by with_unfolding_all rfl) (hg : ∀ r, letTemporaryGo value (.ref d) r = pure () := by intro _; with_unfolding_all rfl) :
    wpAny (model PP w) A (subscriptTail value slice (.ref d) (.str u t)) Q E s :=
  kd_item N hp hE hds hA (fun e => by rw [hv] at e; cases e) (fun v' t' e => by rw [hv] at e; cases e; exact h t') hs hg
theorem filter_sound {keys : List Str} {p q : Str → Bool} (h : ∀ x, p x = true → q x = true) : ∀ x ∈ keys.filter p, q x = true := fun x hx => h x (List.mem_filter.mp hx).2
theorem filter_len {c : Ents} {p : Str → Bool} {k : Nat} (h : c.length ≤ k) : ((c.map (·.1)).filter p).length ≤ k := Nat.le_trans (List.length_filter_le _ _) (by rw [List.length_map]; exact h)
theorem strs_append : ∀ {vs ws : List Value} {xs ys : List Str}, StrsAre vs xs → StrsAre ws ys → StrsAre (vs ++ ws) (xs ++ ys)
  | _, _, _, _, .nil, h => h
  | _, _, _, _, .cons x t r, h => .cons x t (strs_append r h)
theorem ln_addS {w : World} {A : Around} {E : Value → Shared → Prop} {s : Shared} {h₀ : Heap} {L a b : Addr} {m : Str → Option Value} {news : List (Addr × Obj)} {vs ws : List Value} {xs ys : List Str} {k j : Nat} {Q : Value → Shared → Prop} (F : Fr h₀ L s.heap m) (N : News h₀ L s.heap news)
    (ha : (a, listOf (List.toArray vs) k) ∈ news) (hb : (b, listOf (List.toArray ws) j) ∈ news) (hS : StrsAre vs xs) (hT : StrsAre ws ys) (hz : xs.length + ys.length ≤ 1000)
    (h : ∀ D us h', Fr h₀ L h' m → News h₀ L h' ((D, listOf (List.toArray us) 0) :: news) → (∀ p ∈ news, p.1 < D) → StrsAre us (xs ++ ys) → Q (.ref D) { s with heap := h' }) :
    wpAny (model PP w) A (binaryOp .Add (.ref a) (.ref b)) Q E s :=
  add_lists F N (News.isList N ha) (News.isList N hb) (fun h' F' N' => h _ _ h' F' N' (fun p hp => Heap.lt_size (N p hp).1) (strs_append hS hT)) (by rw [StrsAre.length hS, StrsAre.length hT, sizeLine_eq]; omega)
theorem sum_fit {c : Ents} {p q : Str → Bool} {ys : List Str} (P : ys.Perm ((c.map (·.1)).filter p)) (h5 : c.length ≤ 5) : ys.length + (sortS ((c.map (·.1)).filter q)).length ≤ 1000 := by
  have h1 := filter_len (p := p) h5
  have h2 := filter_len (p := q) h5
  rw [sortS_len h2, P.length_eq]; omega
noncomputable def inO (ord : List Str) (k : Str) : Bool := (cget (mapO [] 0 ord) k).isSome
noncomputable def atO (ord : List Str) (k : Str) : Int := (cget (mapO [] 0 ord) k).getD 0
def CanOut (ord keys out : List Str) : Prop := ∃ ys : List Str, ys.Perm (keys.filter (inO ord)) ∧ ys.Pairwise (fun x y => atO ord x ≤ atO ord y) ∧ out = ys ++ sortS (keys.filter fun k => !inO ord k)
def OrdIs (_ : List Str) : Prop := True
theorem allLt_mem {d : Nat} : ∀ (l : List (Addr × Obj)), AllLt d l → ∀ p ∈ l, @LT.lt Nat _ p.1 d := by
  intro l
  induction l with
  | nil => intro _ p hp; cases hp
  | cons q r ih =>
    intro h p hp
    rcases List.mem_cons.mp hp with e | hp
    · rw [e]; exact h.1
    · exact ih h.2 p hp
theorem allLt_ne {x y : Addr} {rest : List (Addr × Obj)} (h : AllLt x rest) (hy : @LE.le Nat _ x y) : ∀ p ∈ rest, p.1 ≠ y := fun p hp => Nat.ne_of_lt (Nat.lt_of_lt_of_le (allLt_mem rest h p hp) hy)
theorem ln_sortedO {w : World} {A : Around} {E : Value → Shared → Prop} {s : Shared} {h₀ : Heap} {L l : Addr} {m : Str → Option Value} {news : List (Addr × Obj)} {vs : List Value} {xs ord : List Str} {Q : Value → Shared → Prop} {f : Addr} {k : Nat} (_O : OrdIs ord) (F : Fr h₀ L s.heap m) (N : News h₀ L s.heap news)
    (hl : (l, listOf (List.toArray vs) k) ∈ news) (hS : StrsAre vs xs) (h5 : xs.length ≤ 5) (hall : ∀ x ∈ xs, (cget (mapO [] 0 ord) x).isSome = true)
    (turn : ∀ x t v h tk own, cget (mapO [] 0 ord) x = some v → Fr h₀ L h m → News h₀ L h (news ++ own) → wpAny (model PP w) A.in1.in1 (call (.ref f) [.str x t]) (KskEnd h₀ L m (news ++ own) v { s with heap := h, toks := tk }) (fun _ _ => False) { s with heap := h, toks := tk })
    (h : ∀ D h' tk vs' ys c, Fr h₀ L h' m → News h₀ L h' ((D, listOf (List.toArray vs') c) :: news) → (∀ q ∈ news, q.1 < D) → StrsAre vs' ys → ys.Perm xs → ys.Pairwise (fun x y => (cget (mapO [] 0 ord) x).getD 0 ≤ (cget (mapO [] 0 ord) y).getD 0) → Q (.ref D) { s with heap := h', toks := tk }) :
    wpAny (model PP w) A (call (.builtin "sorted") [.ref l] [(Str.ofString "key", .ref f)]) Q E s :=
  ln_sortedK (fun x => (cget (mapO [] 0 ord) x).getD 0) F N hl hS h5 (fun x t h' tk own hx F' N' => by
    obtain ⟨v, hv⟩ := Option.isSome_iff_exists.mp (hall x hx)
    have := turn x t v h' tk own hv F' N'
    rw [hv]; exact this) h
end Mine
end
section
open PySem PySem.W PyProof.Rows PySem.Calls
set_option maxRecDepth 100000
set_option maxHeartbeats 8000000
theorem Mine.walkResetS43 : True := by w_top off; trivial
namespace Mine
local macro_rules | `(tactic| k_ne) => `(tactic| (refine neN ?_; (try dsimp only); first | with_reducible assumption | with_reducible exact Ne.symm (by assumption) | with_reducible exact Nat.ne_of_lt (by assumption) | with_reducible exact Nat.ne_of_gt (by assumption)))
local macro_rules | `(tactic| k_in) => `(tactic| first | with_reducible assumption | with_reducible exact Frag.In.keeps (by assumption) (Fr.keep (by assumption)))
local macro_rules | `(tactic| walk_at "callWith ref") => `(tactic| (k_here; k_dflt (first
  | ((with_reducible show wpAny _ _ (callWith _ _ _ (backTo _ (starEach (_ :: _) _)) _) _ _ _); refine' callWith_K ?k1 ?k2 ?_; (case k1 => k_asm); (case k2 => k_is); k_whole)
  | ((with_reducible show wpAny _ _ (callWith _ _ _ (backTo _ (starEach [] _)) _) _ _ _); refine' callWith_K0 ?k1 ?k2 ?_; (case k1 => k_in); (case k2 => k_is); k_whole))))
local macro_rules | `(tactic| walk_at "callWith") => `(tactic| (k_here; (with_reducible show wpAny _ _ (callWith _ (Value.builtin _) (_ :: _) (backTo _ (starEach (_ :: _) _)) []) _ _ _); k_dflt (refine PyProof.Rows.callWith_method1 ?_)))
local macro_rules | `(tactic| walk_at "eval Name") => `(tactic| (k_here; (fail_if_success (with_reducible show wpAny _ _ (eval (Expr.Name _ _) (compEnvC _ _ _ _)) _ _ _)); k_dflt (first
  | (refine' nameX_L ?F ?v ?_ ?a ?b; (case F => k_asm); (case a => rfl); (case b => rfl); (case v => rfl); k_whole)
  | (refine' nameX_C ?N ?c ?m ?d ?_ ?a ?b; (case a => rfl); (case b => rfl); (case N => k_asm); (case c => rfl); (case m => k_mem); (case d => k_asm); k_whole)
  | (refine' nameX_K ?F ?X ?T ?e ?_ ?a ?b; (case F => k_asm); (case X => k_asm); (case T => k_asm); (case a => rfl); (case b => rfl); (case e => k_is); k_whole)
  | (refine' nameX_B ?F ?X ?T ?e ?v ?n ?_ ?a ?b; (case F => k_asm); (case X => k_asm); (case T => k_asm); (case a => rfl); (case b => rfl); (case e => k_is); (case v => boot_fast); (case n => decide); k_whole))))
def Stop (p : Prop) : Prop := p
theorem stop_in {p : Prop} (h : Stop p) : p := h
local macro_rules | `(tactic| k_room) => `(tactic| ((try simp only [depth_mark, depth_under_make, depth_under_kw, depth_in1, depth_deeper, depth_caller]); (try simp only [Around.deeper]); omega))
local macro_rules | `(tactic| k_all) => `(tactic| first | assumption | exact List.forall_mem_nil _ | exact allLt_ne (by assumption) (by omega) | (refine' List.forall_mem_cons.mpr ⟨?a, ?b⟩; (case a => k_ne); (case b => k_all)))
local macro_rules | `(tactic| walk_at "FSrc") => `(tactic| (k_here; k_dflt (refine' FSrc.view ?hh ?F ?N ?v ?p ?E ?z ?T ?_; (case hh => exact rfl); (case F => k_asm); (case N => k_asm); (case v => k_mem); (case p => k_mem); (case E => assumption); (case z => exact Nat.le_trans (by assumption) (by decide)); (case T => (intro k' t' I' oI' C' oC' D' oD' m' h' tk' E' hk' hC' hx' F' N' off' ne'; (try simp only [LCg.Off3, and_true] at off'); k_steps))); intro ys' S' D' h' tk' F' N' off'; (try simp only [LCg.Off1, and_true] at off'); (try dsimp only)))
local macro_rules | `(tactic| walk_at "compareOp In str ref") => `(tactic| (k_here; k_dflt (refine' kd_in ?N ?p ?E ?s ?_; (case N => k_asm); (case p => k_mem); (case E => assumption); (case s => assumption))))
local macro_rules | `(tactic| walk_at "compareOp NotIn str ref") => `(tactic| (k_here; k_dflt (refine' kd_notin ?N ?p ?E ?s ?_; (case N => k_asm); (case p => k_mem); (case E => assumption); (case s => assumption))))
local macro_rules | `(tactic| walk_at "eval Lambda") => `(tactic| (k_here; k_dflt (refine' kla_eval ?d0 ?_; (case d0 => exact rfl)); k_dflt (refine' lam_any ?F ?N ?T ?C ?cd ?U ?ps ?cl ?_; (case F => k_asm); (case N => k_asm); (case T => k_asm); (case cd => exact rfl); (case C => first | assumption | exact CodeHd.keeps (by assumption) (Fr.keep (by assumption))); (case U => k_updF); (case ps => walk_at "my_tab"); (case cl => exact rfl)); intro f' c' oc' vs' t' ct' h' tk' F' N' d1' d2' l1; (try dsimp only at N'); (try k_lt l1)))
local macro_rules | `(tactic| walk_at "call builtin:sorted") => `(tactic| (k_here; k_dflt (refine' ln_sortedO ?O ?F ?N ?l ?S ?h5 ?all ?turn ?done; (case O => assumption); (case F => k_asm); (case N => k_asm); (case l => k_mem); (case S => assumption); (case h5 => exact filter_len (by assumption)); (case all => exact filter_sound fun _ e => e); (case turn => (intro x' t' v' h' tk' own' hv' F' N'; (try simp only [List.cons_append] at N'); k_steps))); intro D' h' tk' vs' ys' c' F' N' l1 S' P' W'; (try k_lt l1)))
local macro_rules | `(tactic| walk_at "call builtin:sorted") => `(tactic| (k_here; (with_reducible show wpAny _ _ (call (Value.builtin "sorted") [Value.ref _]) _ _ _); k_dflt (refine' ln_sortedL ?F ?N ?l ?S ?h5 ?_; (case F => k_asm); (case N => k_asm); (case l => k_mem); (case S => assumption); (case h5 => exact filter_len (by assumption))); intro D' h' tk' vs' c' F' N' S' l1; (try k_lt l1)))
local macro_rules | `(tactic| walk_at "subscriptTail") => `(tactic| (k_here; (with_reducible show wpAny _ _ (subscriptTail _ _ (Value.ref _) (Value.str _ _)) _ _ _); k_dflt (refine' kd_itemS ?N ?p ?E ?s ?A ?v ?_ ?ss ?gg; (case N => k_asm); (case p => k_mem); (case E => assumption); (case s => assumption); (case A => exact rfl); (case v => assumption); (case ss => with_unfolding_all rfl); (case gg => (intro _; with_unfolding_all rfl))); intro t'))
local macro_rules | `(tactic| walk_at "TestE") => `(tactic| exact TestE.intro (by assumption) (by assumption) rfl)
local macro_rules | `(tactic| walk_at "exec Assign cons DictComp") => `(tactic| (refine wpAny_Assign_Name ?_ (by with_unfolding_all rfl)))
local macro_rules | `(tactic| walk_at "eval DictComp") => `(tactic| (k_here; refine dc_enum (_F₀ := by k_asm) (Top.nolimit (by k_asm)) (by with_unfolding_all rfl) (by decide) (by rfl) (by decide) (by rfl) (by rfl) (by decide) (by rfl) (by rfl) ?_))
local macro_rules | `(tactic| walk_at "call type:enumerate") => `(tactic| (k_here; (with_reducible show wpAny _ _ (call (Value.type "enumerate") [Value.ref _]) _ _ _); k_dflt (refine' ESrc.intro ?hh ?F ?N ?l ?S ?z ?_; (case hh => exact rfl); (case F => k_asm); (case N => k_asm); (case l => k_mem); (case S => walk_at "my_strs"); (case z => exact Nat.le_of_ble_eq_true rfl)); intro g' D' h' tk' es' n' F' N' off' E' ds'; (try simp only [LCg.Off1, and_true] at off')))
local macro_rules | `(tactic| walk_at "my_tab") => `(tactic| exact tab_up (by assumption) (by walk_at "my_sub"))
local macro_rules | `(tactic| walk_at "my_sub") => `(tactic| (intro p hp; repeat (first | exact hp | refine List.Mem.tail _ ?_)))
local macro_rules | `(tactic| walk_at "binaryOp Add ref ref") => `(tactic| (k_here; (with_reducible show wpAny _ _ (binaryOp _ (Value.ref _) (Value.ref _)) _ _ _); k_dflt (refine' ln_addS ?F ?N ?a ?b ?i ?j ?z ?_; (case F => k_asm); (case N => k_asm); (case a => k_mem); (case b => k_mem); (case i => assumption); (case j => assumption); (case z => exact sum_fit (by assumption) (by assumption))); intro D' ws' h' F' N' l1 hI'; (try k_lt l1)))
local macro_rules | `(tactic| walk_at "my_strs") => `(tactic| first | assumption | exact StrsAre.nil | (repeat constructor))
local macro_rules | `(tactic| walk_at "exec Assign cons ListComp") => `(tactic| (k_here; k_dflt (refine lc_filterA (_F₀ := by k_asm) (by rfl) (by with_unfolding_all rfl) (by with_unfolding_all rfl) (by decide) (by rfl) (by decide) (by rfl) (by rfl) (by rfl) (by rfl) ?_)))
local macro_rules | `(tactic| walk_at "my_sub2") => `(tactic| (refine List.forall_mem_cons.mpr ⟨List.Mem.head _, List.forall_mem_cons.mpr ⟨List.Mem.tail _ (List.Mem.tail _ (List.Mem.tail _ (List.Mem.tail _ (List.Mem.head _)))), List.forall_mem_cons.mpr ⟨by k_mem, ?_⟩⟩⟩; walk_at "my_sub"))
local macro_rules | `(tactic| walk_at "my_conj") => `(tactic| (rename _ ∧ _ => lz; first | exact lz.2 | (replace lz := lz.2; walk_at "my_conj")))

theorem c_canN {w : World} {A₀ : Around} {base h₀ : Heap} {outer : List Env} {env : Env} {d u : Nat} {gs : Option (List Code)} {L : Addr} {m mg mb : Str → Option Value} {s : Shared} {p : Program} {loose : List Str} {mean : ExcName → Option Value}
    {told kv dx : Addr} {es : List DictEntry} {n : Nat} {c : Ents} {rest : List (Addr × Obj)} {ps : Array Value} {Q : Value → Shared → Prop} {E : Value → Shared → Prop} 
    (hcr : d + 40 < recursionLimit) (hcu : u + 300 < cLine)
    (B : Below A₀ base outer h₀) (F : Fr h₀ L s.heap m) (X₀ : (hd.heap_39 w.params).In h₀) (N : News h₀ L s.heap ((25, tabObj ps) :: (kv, viewO "dict_keys" told) :: (told, cdObj dx es n) :: rest)) (T : Top p loose mean mg mb h₀) (HC : CodeHd h₀ 27 25)
    (hf : env.frame = some L) (hk : env.scope.kind = .function) (hE : EK w es c) (h5 : c.length ≤ 5) (HT : TabSt (Str.ofString "canonsort_keys.<locals>.<lambda>") 14 28 ps rest) (hk25 : @Ne Nat kv 25) (ht25 : @Ne Nat told 25) (hr25 : ∀ p ∈ rest, p.1 ≠ 25)
    (hQ : ∀ h' tk D vs xs k c' oc ps', Fr h₀ L h' m → News h₀ L h' ((D, listOf (List.toArray vs) k) :: (c', oc) :: (25, tabObj ps') :: (kv, viewO "dict_keys" told) :: (told, cdObj dx es n) :: rest) → TabNow (Str.ofString "canonsort_keys.<locals>.<lambda>") 14 28 ps' c' oc → StrsAre vs xs → CanOut [] (c.map (·.1)) xs → (∀ q ∈ (25, tabObj ps) :: (kv, viewO "dict_keys" told) :: (told, cdObj dx es n) :: rest, @LT.lt Nat _ q.1 D) → Q (.ref D) { s with heap := h', toks := tk }) :
    wpAny (model PP w) ⟨none, d, some (env :: outer), gs, u⟩ (call (.ref 28) [.ref kv, .none]) Q E s := by
  have _fill : PySem.Challenge.rw_bl0005_01 = PySem.Challenge.rw_bl0005_01 ∧ hd.heap_39 = hd.heap_39 := by k_fill; exact ⟨rfl, rfl⟩
  refine wpAny_call ?_
  refine' code_defC B F X₀ N T rfl hf hk ?k6 ?k7 ?k8 ?k9 ?kB ?kD ?_ ?c2 ?c3 ?c4
  (case k6 => k_is)
  (case k7 => k_is)
  (case k8 => k_room)
  (case k9 => first | exact BindsTo.of_eq rfl | exact binds_K (X₀.keeps F.keep) rfl (by k_is) rfl rfl rfl)
  (case kB => exact rfl)
  (case kD => decide +kernel)
  (case c2 => exact rfl)
  (case c3 => exact rfl)
  (case c4 => exact rfl)
  intro g' L' h' tk' cells' FG' F' N' Y' B' X' T' l1
  (try k_lt l1)
  k_cells Y'
  (try simp only [List.cons_append, List.nil_append] at N')
  (try dsimp only)
  (try k_lift B')
  (try k_fold)
  have lr := l1.2.2.2
  have ord : OrdIs [] := trivial
  k_steps

  refine hQ _ _ _ _ _ _ _ _ _ (by assumption) (news_sub (by assumption) (by walk_at "my_sub2")) ⟨_, _, rfl, by assumption, by assumption⟩ (by assumption) ⟨_, by assumption, by assumption, rfl⟩ ?_
  refine List.forall_mem_cons.mpr ⟨by show @LT.lt Nat _ 25 _; omega, List.forall_mem_cons.mpr ⟨by show @LT.lt Nat _ kv _; omega, List.forall_mem_cons.mpr ⟨by show @LT.lt Nat _ told _; omega, ?_⟩⟩⟩
  skip
  refine allLt_mem rest ?_
  walk_at "my_conj"

theorem c_canR {w : World} {A₀ : Around} {base h₀ : Heap} {outer : List Env} {env : Env} {d u : Nat} {gs : Option (List Code)} {L : Addr} {m mg mb : Str → Option Value} {s : Shared} {p : Program} {loose : List Str} {mean : ExcName → Option Value}
    {told kv dx : Addr} {es : List DictEntry} {n : Nat} {c : Ents} {rest : List (Addr × Obj)} {ps : Array Value} {Q : Value → Shared → Prop} {E : Value → Shared → Prop} {r0 r1 r2 : Str} {t0 t1 t2 : Tok} {ol : Addr} {ok : Nat}
    (hcr : d + 40 < recursionLimit) (hcu : u + 300 < cLine)
    (B : Below A₀ base outer h₀) (F : Fr h₀ L s.heap m) (X₀ : (hd.heap_39 w.params).In h₀) (N : News h₀ L s.heap ((25, tabObj ps) :: (kv, viewO "dict_keys" told) :: (told, cdObj dx es n) :: (ol, listOf (List.toArray [.str r0 t0, .str r1 t1, .str r2 t2]) ok) :: rest)) (T : Top p loose mean mg mb h₀) (HC : CodeHd h₀ 27 25)
    (hf : env.frame = some L) (hk : env.scope.kind = .function) (hE : EK w es c) (h5 : c.length ≤ 5) (HT : TabSt (Str.ofString "canonsort_keys.<locals>.<lambda>") 14 28 ps rest) (hk25 : @Ne Nat kv 25) (ht25 : @Ne Nat told 25) (hl25 : @Ne Nat ol 25) (hr25 : ∀ p ∈ rest, p.1 ≠ 25)
    (hQ : ∀ h' tk D vs xs k c' oc ps', Fr h₀ L h' m → News h₀ L h' ((D, listOf (List.toArray vs) k) :: (c', oc) :: (25, tabObj ps') :: (kv, viewO "dict_keys" told) :: (told, cdObj dx es n) :: (ol, listOf (List.toArray [.str r0 t0, .str r1 t1, .str r2 t2]) ok) :: rest) → TabNow (Str.ofString "canonsort_keys.<locals>.<lambda>") 14 28 ps' c' oc → StrsAre vs xs → CanOut [r0, r1, r2] (c.map (·.1)) xs → (∀ q ∈ (25, tabObj ps) :: (kv, viewO "dict_keys" told) :: (told, cdObj dx es n) :: (ol, listOf (List.toArray [.str r0 t0, .str r1 t1, .str r2 t2]) ok) :: rest, @LT.lt Nat _ q.1 D) → Q (.ref D) { s with heap := h', toks := tk }) :
    wpAny (model PP w) ⟨none, d, some (env :: outer), gs, u⟩ (call (.ref 28) [.ref kv, .ref ol]) Q E s := by
  have _fill : PySem.Challenge.rw_bl0005_01 = PySem.Challenge.rw_bl0005_01 ∧ hd.heap_39 = hd.heap_39 := by k_fill; exact ⟨rfl, rfl⟩
  refine wpAny_call ?_
  refine' code_defC B F X₀ N T rfl hf hk ?k6 ?k7 ?k8 ?k9 ?kB ?kD ?_ ?c2 ?c3 ?c4
  (case k6 => k_is)
  (case k7 => k_is)
  (case k8 => k_room)
  (case k9 => first | exact BindsTo.of_eq rfl | exact binds_K (X₀.keeps F.keep) rfl (by k_is) rfl rfl rfl)
  (case kB => exact rfl)
  (case kD => decide +kernel)
  (case c2 => exact rfl)
  (case c3 => exact rfl)
  (case c4 => exact rfl)
  intro g' L' h' tk' cells' FG' F' N' Y' B' X' T' l1
  (try k_lt l1)
  k_cells Y'
  (try simp only [List.cons_append, List.nil_append] at N')
  (try dsimp only)
  (try k_lift B')
  (try k_fold)
  have lr := l1.2.2.2.2
  have ord : OrdIs [r0, r1, r2] := trivial
  k_steps

  refine hQ _ _ _ _ _ _ _ _ _ (by assumption) (news_sub (by assumption) (by walk_at "my_sub2")) ⟨_, _, rfl, by assumption, by assumption⟩ (by assumption) ⟨_, by assumption, by assumption, rfl⟩ ?_
  refine List.forall_mem_cons.mpr ⟨by show @LT.lt Nat _ 25 _; omega, List.forall_mem_cons.mpr ⟨by show @LT.lt Nat _ kv _; omega, List.forall_mem_cons.mpr ⟨by show @LT.lt Nat _ told _; omega, ?_⟩⟩⟩
  refine List.forall_mem_cons.mpr ⟨by show @LT.lt Nat _ ol _; omega, ?_⟩
  refine allLt_mem rest ?_
  walk_at "my_conj"
end Mine
end
section
open PySem PySem.W PyProof.Rows PySem.Calls
set_option maxRecDepth 100000
set_option maxHeartbeats 8000000
theorem Mine.walkResetS44 : True := by w_top off; trivial
namespace Mine
abbrev quC : Str := Str.ofString "canonsort_keys.<locals>.<lambda>"
theorem upd_sides {x : Addr} {o o' : Obj} {y : Addr} {news : List (Addr × Obj)} {gg : Obj → List (Addr × Obj)} (U : UpdF x o news gg) (hm : (y, o') ∈ news) (hne : o' ≠ o) : @Ne Nat y x := by
  obtain ⟨pre, post, e1, e2, p1, p2⟩ := U.split
  rw [e1] at hm
  rcases List.mem_append.mp hm with h | h
  · exact p1 _ h
  · rcases List.mem_cons.mp h with h | h
    · exact absurd (Prod.mk.inj h).2 hne
    · exact p2 _ h
section
variable {w : World} {A₀ : Around} {base h₀ : Heap} {outer : List Env} {env : Env} {A : Around} {L : Addr} {m mg mb : Str → Option Value} {s : Shared} {p : Program} {loose : List Str} {mean : ExcName → Option Value}
    {told kv dx : Addr} {es : List DictEntry} {n : Nat} {c : Ents} {news : List (Addr × Obj)} {gg : Obj → List (Addr × Obj)} {ps : Array Value} {Q : Value → Shared → Prop} {E : Value → Shared → Prop}
theorem can_back {h' : Heap} {D c' : Addr} {od oc : Obj} {ps' : Array Value} {pre post x : List (Addr × Obj)} (e2 : gg (tabObj ps') = pre ++ (25, tabObj ps') :: post) (N : News h₀ L h' ((D, od) :: (c', oc) :: (25, tabObj ps') :: (x ++ (pre ++ post)))) : News h₀ L h' ((D, od) :: (c', oc) :: gg (tabObj ps')) := by
  rw [e2]
  refine news_sub N fun p hp => ?_
  rcases List.mem_cons.mp hp with rfl | hp
  · exact .head _
  · rcases List.mem_cons.mp hp with rfl | hp
    · exact .tail _ (.head _)
    · rcases List.mem_append.mp hp with hp | hp
      · exact .tail _ (.tail _ (.tail _ (List.mem_append_right _ (List.mem_append_left _ hp))))
      · rcases List.mem_cons.mp hp with rfl | hp
        · exact .tail _ (.tail _ (.head _))
        · exact .tail _ (.tail _ (.tail _ (List.mem_append_right _ (List.mem_append_right _ hp))))
theorem tab_cut {pre post : List (Addr × Obj)} (hN : News h₀ L s.heap (pre ++ (25, tabObj ps) :: post)) (HT : TabSt quC 14 28 ps (pre ++ (25, tabObj ps) :: post)) : TabSt quC 14 28 ps (pre ++ post) := by
  rcases HT with h | ⟨c', oc, vs, t, e, hm, hd, hv⟩
  · exact .inl h
  · refine .inr ⟨c', oc, vs, t, e, ?_, hd, hv⟩
    rcases List.mem_append.mp hm with h | h
    · exact List.mem_append_left _ h
    · rcases List.mem_cons.mp h with h | h
      · exfalso
        obtain ⟨rfl, rfl⟩ := Prod.mk.inj h
        have hd' : Data.fields ps = .fields vs := hd
        obtain rfl := Data.fields.inj hd'
        rw [e] at hv
        simp [rawInt] at hv
      · exact List.mem_append_right _ h
theorem g_canN (hA0 : A.handled = none) (hA : A.frames = some (env :: outer)) (hcr : A.depth + 40 < recursionLimit) (hcu : A.units + 300 < cLine)
    (B : Below A₀ base outer h₀) (F : Fr h₀ L s.heap m) (X₀ : (hd.heap_39 w.params).In h₀) (N : News h₀ L s.heap news) (U : UpdF 25 (tabObj ps) news gg) (T : Top p loose mean mg mb h₀) (HC : CodeHd h₀ 27 25)
    (hv : (kv, viewO "dict_keys" told) ∈ news) (ht : (told, cdObj dx es n) ∈ news)
    (hf : env.frame = some L) (hk : env.scope.kind = .function) (hE : EK w es c) (h5 : c.length ≤ 5) (HT : TabSt quC 14 28 ps news)
    (hQ : ∀ h' tk D vs xs k c' oc ps', Fr h₀ L h' m → News h₀ L h' ((D, listOf (List.toArray vs) k) :: (c', oc) :: gg (tabObj ps')) → TabNow quC 14 28 ps' c' oc → StrsAre vs xs → CanOut [] (c.map (·.1)) xs → (∀ q ∈ news, @LT.lt Nat _ q.1 D) → Q (.ref D) { s with heap := h', toks := tk }) :
    wpAny (model PP w) A (call (.ref 28) [.ref kv, .none]) Q E s := by
  obtain ⟨hd', d, fr, gs, u⟩ := A
  dsimp only at hA0 hA hcr hcu
  subst hA0 hA
  have k1 := upd_sides U hv (by intro h; cases h)
  have k2 := upd_sides U ht (by intro h; cases h)
  obtain ⟨pre, post, e1, e2, p1, p2⟩ := U.split
  subst e1
  refine c_canN (kv := kv) (told := told) (n := n) (dx := dx) (rest := pre ++ post) hcr hcu B F X₀ (news_sub N fun p hp => ?_) T HC hf hk hE h5 (tab_cut N HT) k1 k2 (fun p hp => (List.mem_append.mp hp).elim (p1 p) (p2 p))
    fun h' tk D vs xs k c' oc ps' F' N' T' S' C' l' => hQ h' tk D vs xs k c' oc ps' F' (can_back (x := [(kv, viewO "dict_keys" told), (told, cdObj dx es n)]) (e2 _) N') T' S' C' fun q hq => ?_
  · rcases List.mem_cons.mp hp with rfl | hp
    · exact List.mem_append_right _ (.head _)
    · rcases List.mem_cons.mp hp with rfl | hp
      · exact hv
      · rcases List.mem_cons.mp hp with rfl | hp
        · exact ht
        · exact (List.mem_append.mp hp).elim (List.mem_append_left _) fun h => List.mem_append_right _ (.tail _ h)
  · refine l' q ?_
    rcases List.mem_append.mp hq with h | h
    · exact .tail _ (.tail _ (.tail _ (List.mem_append_left _ h)))
    · rcases List.mem_cons.mp h with rfl | h
      · exact .head _
      · exact .tail _ (.tail _ (.tail _ (List.mem_append_right _ h)))
theorem g_canR {r0 r1 r2 : Str} {t0 t1 t2 : Tok} {ol : Addr} {ok : Nat} (hA0 : A.handled = none) (hA : A.frames = some (env :: outer)) (hcr : A.depth + 40 < recursionLimit) (hcu : A.units + 300 < cLine)
    (B : Below A₀ base outer h₀) (F : Fr h₀ L s.heap m) (X₀ : (hd.heap_39 w.params).In h₀) (N : News h₀ L s.heap news) (U : UpdF 25 (tabObj ps) news gg) (T : Top p loose mean mg mb h₀) (HC : CodeHd h₀ 27 25)
    (hv : (kv, viewO "dict_keys" told) ∈ news) (ht : (told, cdObj dx es n) ∈ news) (hl : (ol, listOf (List.toArray [.str r0 t0, .str r1 t1, .str r2 t2]) ok) ∈ news)
    (hf : env.frame = some L) (hk : env.scope.kind = .function) (hE : EK w es c) (h5 : c.length ≤ 5) (HT : TabSt quC 14 28 ps news)
    (hQ : ∀ h' tk D vs xs k c' oc ps', Fr h₀ L h' m → News h₀ L h' ((D, listOf (List.toArray vs) k) :: (c', oc) :: gg (tabObj ps')) → TabNow quC 14 28 ps' c' oc → StrsAre vs xs → CanOut [r0, r1, r2] (c.map (·.1)) xs → (∀ q ∈ news, @LT.lt Nat _ q.1 D) → Q (.ref D) { s with heap := h', toks := tk }) :
    wpAny (model PP w) A (call (.ref 28) [.ref kv, .ref ol]) Q E s := by
  obtain ⟨hd', d, fr, gs, u⟩ := A
  dsimp only at hA0 hA hcr hcu
  subst hA0 hA
  have k1 := upd_sides U hv (by intro h; cases h)
  have k2 := upd_sides U ht (by intro h; cases h)
  have k3 := upd_sides U hl (by intro h; cases h)
  obtain ⟨pre, post, e1, e2, p1, p2⟩ := U.split
  subst e1
  refine c_canR (kv := kv) (told := told) (n := n) (dx := dx) (ok := ok) (t0 := t0) (t1 := t1) (t2 := t2) (ol := ol) (rest := pre ++ post) hcr hcu B F X₀ (news_sub N fun p hp => ?_) T HC hf hk hE h5 (tab_cut N HT) k1 k2 k3 (fun p hp => (List.mem_append.mp hp).elim (p1 p) (p2 p))
    fun h' tk D vs xs k c' oc ps' F' N' T' S' C' l' => hQ h' tk D vs xs k c' oc ps' F' (can_back (x := [(kv, viewO "dict_keys" told), (told, cdObj dx es n), (ol, listOf (List.toArray [.str r0 t0, .str r1 t1, .str r2 t2]) ok)]) (e2 _) N') T' S' C' fun q hq => ?_
  · rcases List.mem_cons.mp hp with rfl | hp
    · exact List.mem_append_right _ (.head _)
    · rcases List.mem_cons.mp hp with rfl | hp
      · exact hv
      · rcases List.mem_cons.mp hp with rfl | hp
        · exact ht
        · rcases List.mem_cons.mp hp with rfl | hp
          · exact hl
          · exact (List.mem_append.mp hp).elim (List.mem_append_left _) fun h => List.mem_append_right _ (.tail _ h)
  · refine l' q ?_
    rcases List.mem_append.mp hq with h | h
    · exact .tail _ (.tail _ (.tail _ (.tail _ (List.mem_append_left _ h))))
    · rcases List.mem_cons.mp h with rfl | h
      · exact .head _
      · exact .tail _ (.tail _ (.tail _ (.tail _ (List.mem_append_right _ h))))
end
end Mine
end
section
open PySem PySem.W PyProof.Rows PySem.Calls PySem.SeqAt
set_option maxRecDepth 100000
set_option maxHeartbeats 8000000
theorem Mine.walkResetS45 : True := by w_top off; trivial
namespace Mine
section
variable {w : World} {A : Around} {E : Value → Shared → Prop} {s : Shared} {h₀ : Heap} {L : Addr} {m : Str → Option Value} {news : List (Addr × Obj)} {d dx : Addr} {es : List DictEntry} {n : Nat} {c : Ents} {Q : Value → Shared → Prop}
theorem b_keys {R : Value → Shared → Prop} (hN : NOk w s.heap d) (hds : (d == sysModules) = false) (h : R (.ref s.heap.objs.size) { s with heap := s.heap.push { cls := .type "dict_keys", data := .fields #[.ref d] } }) :
    wpAny (model PP w) A (Builtin.«dict.keys» ⟨[.ref d], []⟩) (fun fin s' => ∃ v, fin = .done (.ret v) ∧ R v s') E s := by
  unfold Builtin.«dict.keys»
  refine wpAny_bind ?_
  unfold Builtin.Dict.noArgs
  refine wpAny_bind (hN _ _ _ _ _ _ _ rfl ?_)
  show wpAny _ _ (pure d) _ _ s
  refine wpAny_pure ?_
  show wpAny _ _ (Builtin.Dict.showsAll d >>= _) _ _ s
  unfold Builtin.Dict.showsAll
  rw [if_neg (by rw [hds]; exact Bool.false_ne_true)]
  refine wpAny_bind (wpAny_pure ?_)
  exact wpAny_bind (wpAny_newObj_type (wpAny_pure ⟨_, rfl, h⟩))
theorem ke_entry : entryFor table "dict.keys" = some Builtin.«dict.keys» := entryFor_of_tree (by kernel_rfl)
theorem ke_kind : builtinKind "dict.keys" = some .method := by decide +kernel
theorem ke_split : splitId "dict.keys" = some ("dict", "keys") := by decide +kernel
theorem ke_sig : (Manifest.sig_dict.lookup "keys").isSome = true := by decide +kernel
theorem sq_ke_sig : Manifest.signature? "dict.keys" = Manifest.sig_dict.lookup "keys" := signature?_of (id := "dict.keys") (n := ['s', 'y', 'e', 'k']) (o := ['t', 'c', 'i', 'd']) (by kernel_rfl) PySem.F.owner_dict
theorem ke_args (x : Addr) : Bind.checkArgs "dict.keys" ((Manifest.sig_dict.lookup "keys").get ke_sig) ⟨[.ref x], []⟩ = pure () := by kernel_rfl
theorem ke_plain : plainId "dict.keys" = true := by decide +kernel
theorem ke_find (w : World) : findIn (hd.heap_39 w.params) (.ref 163) "keys" = some (some (.builtin "dict.keys")) := by kernel_rfl
/-- told.keys(), by its type's own method -/
theorem kt_keys (F : Fr h₀ L s.heap m) (X₀ : (hd.heap_39 w.params).In h₀) (N : News h₀ L s.heap news) (hp : (d, cdObj dx es n) ∈ news) (hds : (d == sysModules) = false)
    (h : ∀ (D : Addr) h', Fr h₀ L h' m → News h₀ L h' ((D, { cls := .type "dict_keys", data := .fields #[.ref d] }) :: news) → (∀ q ∈ news, q.1 < D) → Q (.ref D) { s with heap := h' }) :
    wpAny (model PP w) A (call (.builtin "dict.keys") [.ref d]) Q E s := by
  obtain ⟨hh, g, dr, tk, os⟩ := s
  have ho := (N _ hp).1
  have X := X₀.keeps F.keep
  have hi := isInst_cd X ho (mro_dict w)
  refine wpAny_call (codeAny_call_builtin ke_plain ke_entry ?_)
  simp only [checkBuiltinCall, ke_kind, ke_split]
  rw [sq_ke_sig, ← Option.some_get ke_sig]
  refine wpAny_bind (hi.at ?_)
  dsimp only
  rw [ke_args]
  simp only [Bool.not_true, Bool.false_eq_true, if_false]
  refine wpAny_pure ?_
  have := b_keys (w := w) (A := A.in1) (E := E) (R := Q) (nok_told X ho) hds (h _ _ (F.push _) (News.push F N _) fun q hq => Heap.lt_size (N q hq).1)
  refine wpAny_mono this (fun fin s' z => ?_) fun _ _ z => z
  obtain ⟨v, rfl, q⟩ := z
  exact q
end
theorem ty_keys : typeOf (.builtin "dict.keys") = pure (.type "method_descriptor") := by with_unfolding_all rfl
theorem find_skeys (w : World) : findIn (hd.heap_39 w.params) (.ref 163) "sorted_keys" = some (some (.ref 153)) := by kernel_rfl
theorem find_sitems (w : World) : findIn (hd.heap_39 w.params) (.ref 163) "sorted_items" = some (some (.ref 160)) := by kernel_rfl
theorem type_skeys (w : World) : typeIn (hd.heap_39 w.params) (.ref 153) = some (.type "function") := by kernel_rfl
theorem type_sitems (w : World) : typeIn (hd.heap_39 w.params) (.ref 160) = some (.type "function") := by kernel_rfl
section
variable {w : World} {A : Around} {h : Heap} {g : Array GenState} {dr : Drawn} {t tk : Nat} {os : OsState} {Q : Value → Shared → Prop} {E : Value → Shared → Prop} {x dx : Addr} {es : List DictEntry} {n : Nat}
local macro_rules | `(tactic| x_close) => `(tactic| first | assumption)
theorem ga_canon (hx : h.get? x = some { cls := .ref 163, dict := some dx, data := .dict es.toArray n, slots := #[] }) (hdd : h.get? dx = some { cls := .type "dict", dict := none, data := .dict #[] 0, slots := #[] }) (X : (hd.heap_39 w.params).In h) (z : Q .none ⟨h, g, dr, t, os⟩) :
   wpAny (model PP w) A (call (.builtin "dict.__getattribute__") [.ref x, .str (Str.ofString "canonical_order") tk]) Q E ⟨h, g, dr, t, os⟩ := by
  x_run
end
end Mine
end
section
open PySem PySem.W PyProof.Rows PySem.Calls PyProof.Rows.LCg
set_option maxRecDepth 100000
set_option maxHeartbeats 8000000
theorem Mine.walkResetS46 : True := by w_top off; trivial
namespace Mine
theorem getAttr_canon {w : World} {A : Around} {E : Value → Shared → Prop} {s : Shared} {h₀ : Heap} {L : Addr} {m : Str → Option Value} {news : List (Addr × Obj)} {x dx : Addr} {es : List DictEntry} {n : Nat} {expr : Bool} {Q : Value → Shared → Prop} (F : Fr h₀ L s.heap m) (X₀ : (hd.heap_39 w.params).In h₀) (N : News h₀ L s.heap news) (hx : (x, cdObj dx es n) ∈ news) (hdd : (dx, dictOf [] 0) ∈ news)
    (h : Q .none { s with toks := s.toks + 1 }) : wpAny (model PP w) A (getAttr (.ref x) (Str.ofString "canonical_order") expr) Q E s := by
  refine getAttr_told (X₀.keeps F.keep) (N _ hx).1 fun tk => ?_
  obtain ⟨hp, g, dr, t, os⟩ := s
  exact ga_canon (N _ hx).1 (N _ hdd).1 (X₀.keeps F.keep) (handed_on rfl h)
theorem v_getitem {w : World} {A₀ : Around} {base h₀ : Heap} {outer : List Env} {env : Env} {A : Around} {L : Addr} {m mg mb : Str → Option Value} {s : Shared} {p : Program} {loose : List Str} {mean : ExcName → Option Value}
    {told dx : Addr} {es : List DictEntry} {n : Nat} {od : Obj} {c : Ents} {news : List (Addr × Obj)} {Q : Value → Shared → Prop} {E : Value → Shared → Prop} {x : Str} {t : Tok} {v : Int}
    (hA0 : A.handled = none) (hA : A.frames = some (env :: outer)) (hcr : A.depth + 20 < recursionLimit) (hcu : A.units + 100 < cLine)
    (B : Below A₀ base outer h₀) (F : Fr h₀ L s.heap m) (X₀ : (hd.heap_39 w.params).In h₀) (N : News h₀ L s.heap news) (hx : (told, cdObj dx es n) ∈ news) (hm : (dx, od) ∈ news) (T : Top p loose mean mg mb h₀)
    (hf : env.frame = some L) (hk : env.scope.kind = .function) (hdx : dx ≠ told) (hE : EK w es c) (hxs : (told == sysModules) = false) (hup : Txt.upper x = x) (hul : PySem.Builtin.Str.tooLong (Txt.upper x).length = false) (hv : cget c x = some v)
    (hS : ∀ h' tk tv, Fr h₀ L h' m → News h₀ L h' news → Q (.int v tv) { s with heap := h', toks := tk }) :
    wpAny (model PP w) A (call (.ref 58) [.ref told, .str x t]) Q E s := by
  obtain ⟨hd', d, fr, gs, u⟩ := A
  dsimp only at hA0 hA hcr hcu
  subst hA0 hA
  refine c_getitem (n := n) (od := od) (rest := news.filter fun q => decide (q.1 ≠ told)) hcr hcu B F X₀ (news_sub N fun q hq => ?_) T hf hk (fun q hq => by simpa using (List.mem_filter.mp hq).2) hdx hE hxs hup hul (fun h' tk v' tv e F' N' => ?_) (fun h' tk e g' e1 => by rw [hv] at e1; cases e1)
  · rcases List.mem_cons.mp hq with rfl | hq
    · exact hx
    · rcases List.mem_cons.mp hq with rfl | hq
      · exact hm
      · exact (List.mem_filter.mp hq).1
  · rw [hv] at e
    obtain rfl := Option.some.inj e
    refine hS h' tk tv F' fun q hq => ?_
    by_cases h : q.1 = told
    · have h1 := (N q hq).1
      have h2 := (N _ hx).1
      rw [h] at h1
      have h3 : q = (told, cdObj dx es n) := Prod.ext h (Option.some.inj (h1.symm.trans h2))
      rw [h3]; exact N' _ (.head _)
    · exact N' q (.tail _ (.tail _ (List.mem_filter.mpr ⟨hq, by simpa using h⟩)))
-- [(k, told[k]) for k in names]
theorem off1_mem {D : Addr} : ∀ {l : List (Addr × Obj)}, Off1 D l → ∀ q ∈ l, q.1 ≠ D := by
  intro l
  induction l with
  | nil => intro _ q hq; cases hq
  | cons a r ih =>
    intro h q hq
    rcases List.mem_cons.mp hq with e | hq
    · rw [e]; exact h.1
    · exact ih h.2 q hq
def EltQ (h₀ : Heap) (L : Addr) (m : Str → Option Value) (s₀ : Shared) (k : Str) (v : Int) (I C D : Addr) (led : List (Addr × Obj)) (y : Value) (s' : Shared) : Prop :=
  ∃ a t1 t2 h' tk', y = .ref a ∧ s' = { s₀ with heap := h', toks := tk' } ∧ Fr h₀ L h' m ∧ News h₀ L h' ((a, tupO #[.str k t1, .int v t2]) :: led) ∧ (@Ne Nat a I) ∧ (@Ne Nat a C) ∧ (@Ne Nat a D)
theorem EltQ.intro {h₀ : Heap} {L : Addr} {m : Str → Option Value} {s₀ : Shared} {k : Str} {v : Int} {I C D a : Addr} {led : List (Addr × Obj)} {t1 t2 : Tok} {h' : Heap} {tk' : Nat} (F : Fr h₀ L h' m) (N : News h₀ L h' ((a, tupO #[.str k t1, .int v t2]) :: led)) (n1 : @Ne Nat a I) (n2 : @Ne Nat a C) (n3 : @Ne Nat a D) :
    EltQ h₀ L m s₀ k v I C D led (.ref a) { s₀ with heap := h', toks := tk' } := ⟨a, t1, t2, h', tk', rfl, rfl, F, N, n1, n2, n3⟩
def valsO (c : Ents) (xs : List Str) : Ents := xs.map fun k => (k, (cget c k).getD 0)
theorem rows_snoc {c : Ents} {as : List Addr} {seg : List (Addr × Obj)} {p : Str × Int} {a : Addr} {t t' : Tok} (r : Rows c as seg) : Rows (c ++ [p]) (as ++ [a]) ((a, tupO #[.str p.1 t, .int p.2 t']) :: seg) := by
  refine ⟨by rw [List.length_append, List.length_append, r.1]; rfl, fun j b q hb hq => ?_⟩
  by_cases h : j < c.length
  · rw [List.getElem?_append_left (by rw [r.1]; exact h)] at hb
    rw [List.getElem?_append_left h] at hq
    obtain ⟨u, u', e⟩ := r.2 j b q hb hq
    exact ⟨u, u', .tail _ e⟩
  · have hl := r.1
    rw [List.getElem?_append_right (by omega)] at hb hq
    have hj : j = c.length := by
      by_cases h2 : j = c.length
      · exact h2
      · have : j - c.length ≥ 1 := by omega
        rw [List.getElem?_eq_none (by simp; omega)] at hq; cases hq
    subst hj
    rw [hl] at hb
    simp at hb hq
    subst hb hq
    exact ⟨t, t', .head _⟩
section
variable {w : World} {A : Around} {E : Value → Shared → Prop} {s : Shared} {h₀ : Heap} {L : Addr} {m : Str → Option Value} {env : Env} {elt : Expr} {x : Str} {scope : Scope} {cl : List (Str × Addr)} {xs : List Str} {c : Ents} {news : List (Addr × Obj)}
def EltH (w : World) (A : Around) (h₀ : Heap) (L : Addr) (m : Str → Option Value) (env : Env) (elt : Expr) (x : Str) (scope : Scope) (cl : List (Str × Addr)) (s : Shared) (news : List (Addr × Obj)) (c : Ents) (xs : List Str) : Prop :=
  ∀ k t v I oI C oC D oD m₂ h tk (E' : Value → Shared → Prop) led, k ∈ xs → cget c k = some v → NsObj oC m₂ → m₂ x = some (.str k t) → Fr h₀ L h m → News h₀ L h ((I, oI) :: (C, oC) :: (D, oD) :: (news ++ led)) → ((@Ne Nat I C) ∧ (@Ne Nat I D) ∧ (@Ne Nat C D)) →
    wpAny (model PP w) A (eval elt (compEnvC scope cl C env)) (EltQ h₀ L m s k v I C D ((I, oI) :: (C, oC) :: (D, oD) :: (news ++ led))) E' { s with heap := h, toks := tk }
theorem rest_rows {vs : List Value} {l : Addr} {n : Nat} {Fin : List Value → List (Addr × Obj) → Prop} (hl : (l, listOf (List.toArray vs) n) ∈ news) (hS : StrsAre vs xs) (hall : ∀ x ∈ xs, ∃ v, cget c x = some v) (T : EltH w A h₀ L m env elt x scope cl s news c xs)
    (fin : ∀ as seg, Rows (valsO c xs) as seg → Fin (as.map Value.ref) (seg ++ news)) :
    ∀ (j i : Nat) (as : List Addr) (seg : List (Addr × Obj)), i + j = xs.length → Rows (valsO c (xs.take i)) as seg →
      CompRest PP w A h₀ L m env elt x scope cl s (SrcAt h₀ l (List.toArray vs)) (fun i v => (List.toArray vs)[i]? = some v) Fin j i (as.map Value.ref) (seg ++ news)
  | 0, i, as, seg, hij, r => CompRest.zero (fin as seg (by rwa [List.take_of_length_le (by omega)] at r))
  | j + 1, i, as, seg, hij, r => by
    refine CompRest.succ fun u I oI C oC D m₂ h tk E' hu hC hx2 F N off ne => ?_
    obtain ⟨k, hk⟩ : ∃ k, xs[i]? = some k := ⟨_, List.getElem?_eq_getElem (by omega)⟩
    obtain ⟨t, ht⟩ := hS.get i k hk
    rw [List.getElem?_toArray, ht] at hu
    obtain rfl := Option.some.inj hu
    have hkm := List.mem_of_getElem? hk
    obtain ⟨v, hv⟩ := hall k hkm
    refine wpAny_mono (T k t v I oI C oC D (lst (as.map Value.ref)) m₂ h tk E' seg hkm hv hC hx2 F (news_sub N fun p hp => ?_) ne) (fun y s' hy => ?_) fun _ _ e => e
    · rcases List.mem_cons.mp hp with rfl | hp
      · exact .head _
      · rcases List.mem_cons.mp hp with rfl | hp
        · exact .tail _ (.head _)
        · rcases List.mem_cons.mp hp with rfl | hp
          · exact .tail _ (.tail _ (.head _))
          · exact .tail _ (.tail _ (.tail _ ((List.mem_append.mp hp).elim (List.mem_append_right _) (List.mem_append_left _))))
    · obtain ⟨a, t1, t2, h', tk', rfl, rfl, F', N', n1, n2, n3⟩ := hy
      have hr : valsO c (xs.take (i + 1)) = valsO c (xs.take i) ++ [(k, v)] := by
        unfold valsO
        rw [take_snoc hk, List.map_append, List.map_cons, List.map_nil, hv]; rfl
      refine CompEnd.intro F' N' (((a, tupO #[.str k t1, .int v t2]) :: seg) ++ news) (fun p hp => ?_) ⟨⟨n1, n2, n3⟩, off⟩ (.inr ⟨_, List.mem_append_right _ hl, rfl, _, rfl⟩) ?_
      · rcases List.mem_cons.mp hp with rfl | hp
        · exact .tail _ (.head _)
        · rcases List.mem_cons.mp hp with rfl | hp
          · exact .tail _ (.tail _ (.head _))
          · rcases List.mem_cons.mp hp with rfl | hp
            · exact .tail _ (.tail _ (.tail _ (.head _)))
            · rcases List.mem_cons.mp hp with rfl | hp
              · exact .head _
              · exact .tail _ (.tail _ (.tail _ (.tail _ ((List.mem_append.mp hp).elim (List.mem_append_right _) (List.mem_append_left _)))))
      · have e : as.map Value.ref ++ [Value.ref a] = (as ++ [a]).map Value.ref := by rw [List.map_append]; rfl
        rw [e]
        exact rest_rows hl hS hall T fin j (i + 1) _ _ (by omega) (by rw [hr]; exact rows_snoc r)
theorem comp_rows {vs : List Value} {l : Addr} {n : Nat} {Q : Value → Shared → Prop} (hh : A.handled = none) (F : Fr h₀ L s.heap m) (N : News h₀ L s.heap news) (hl : (l, listOf (List.toArray vs) n) ∈ news) (hS : StrsAre vs xs) (hz : xs.length ≤ 1000) (hall : ∀ x ∈ xs, ∃ v, cget c x = some v) (T : EltH w A h₀ L m env elt x scope cl s news c xs)
    (fin : ∀ D h tk as ep seg, Fr h₀ L h m → News h₀ L h ((D, lstO as ep) :: (seg ++ news)) → Rows (valsO c xs) as seg → (∀ q ∈ news, q.1 ≠ D) → Q (.ref D) { s with heap := h, toks := tk }) :
    CompSrc PP w A h₀ L m env elt x scope cl (fun s₂ => FinE h₀ L m s₂ Q) (.ref l) s := by
  have hvl := StrsAre.length hS
  refine CompSrc.ledger hh F N hl (by rw [List.size_toArray, sizeLine_eq]; omega) fun g => ?_
  have := rest_rows (w := w) (A := A) (s := { s with heap := g }) (Fin := FinE h₀ L m { s with heap := g } Q) hl hS hall (fun k t v I oI C oC D oD m₂ h tk E' led a1 a2 a3 a4 a5 a6 a7 => T k t v I oI C oC D oD m₂ h tk E' led a1 a2 a3 a4 a5 a6 a7)
    (fun as seg r D h tk F' N' off => fin D h tk as _ seg F' N' r fun q hq => off1_mem off q (List.mem_append_right _ hq)) (List.toArray vs).size 0 [] [] (by rw [List.size_toArray]; omega) ⟨rfl, fun j a p ha => by simp at ha⟩
  simpa using this
end
end Mine
end
section
open PySem PySem.W PyProof.Rows PySem.Calls
set_option maxRecDepth 100000
set_option maxHeartbeats 8000000
theorem Mine.walkResetS47 : True := by w_top off; trivial
namespace Mine
local macro_rules | `(tactic| k_ne) => `(tactic| (refine neN ?_; (try dsimp only); first | with_reducible assumption | with_reducible exact Ne.symm (by assumption) | with_reducible exact Nat.ne_of_lt (by assumption) | with_reducible exact Nat.ne_of_gt (by assumption)))
local macro_rules | `(tactic| k_in) => `(tactic| first | with_reducible assumption | with_reducible exact Frag.In.keeps (by assumption) (Fr.keep (by assumption)))
local macro_rules | `(tactic| walk_at "callWith ref") => `(tactic| (k_here; k_dflt (first
  | ((with_reducible show wpAny _ _ (callWith _ _ _ (backTo _ (starEach (_ :: _) _)) _) _ _ _); refine' callWith_K ?k1 ?k2 ?_; (case k1 => k_asm); (case k2 => k_is); k_whole)
  | ((with_reducible show wpAny _ _ (callWith _ _ _ (backTo _ (starEach [] _)) _) _ _ _); refine' callWith_K0 ?k1 ?k2 ?_; (case k1 => k_in); (case k2 => k_is); k_whole))))
local macro_rules | `(tactic| walk_at "eval Name") => `(tactic| (k_here; (fail_if_success (with_reducible show wpAny _ _ (eval (Expr.Name _ _) (compEnvC _ _ _ _)) _ _ _)); k_dflt (first
  | (refine' nameX_L ?F ?v ?_ ?a ?b; (case F => k_asm); (case a => rfl); (case b => rfl); (case v => rfl); k_whole)
  | (refine' nameX_C ?N ?c ?m ?d ?_ ?a ?b; (case a => rfl); (case b => rfl); (case N => k_asm); (case c => rfl); (case m => k_mem); (case d => k_asm); k_whole)
  | (refine' nameX_K ?F ?X ?T ?e ?_ ?a ?b; (case F => k_asm); (case X => k_asm); (case T => k_asm); (case a => rfl); (case b => rfl); (case e => k_is); k_whole)
  | (refine' nameX_B ?F ?X ?T ?e ?v ?n ?_ ?a ?b; (case F => k_asm); (case X => k_asm); (case T => k_asm); (case a => rfl); (case b => rfl); (case e => k_is); (case v => boot_fast); (case n => decide); k_whole))))
local macro_rules | `(tactic| k_inst) => `(tactic| (refine' inst_cd ?N ?h1 ?h2; (case N => k_asm); (case h1 => k_mem); (case h2 => k_mem)))
local macro_rules | `(tactic| k_room) => `(tactic| ((try simp only [depth_mark, depth_under_make, depth_under_kw, depth_in1, depth_deeper, depth_caller]); (try simp only [Around.deeper]); omega))
local macro_rules | `(tactic| k_all) => `(tactic| first | assumption | exact List.forall_mem_nil _ | exact allLt_ne (by assumption) (by omega) | (refine' List.forall_mem_cons.mpr ⟨?a, ?b⟩; (case a => k_ne); (case b => k_all)))
local macro_rules | `(tactic| walk_at "my_units") => `(tactic| ((try simp only [units_in1, PySem.Around.deeper_units, Around.mark_units, units_caller]); (try simp only [Around.deeper]); first | omega | (exact Nat.le_of_ble_eq_true rfl)))
local macro_rules | `(tactic| walk_at "my_sub") => `(tactic| (intro p hp; repeat (first | exact hp | refine List.Mem.tail _ ?_)))
local macro_rules | `(tactic| walk_at "my_tab") => `(tactic| exact tab_up (by assumption) (by walk_at "my_sub"))
local macro_rules | `(tactic| walk_at "my_conj") => `(tactic| (rename _ ∧ _ => lz; first | exact lz.2 | (replace lz := lz.2; walk_at "my_conj")))
local macro_rules | `(tactic| walk_at "getMethod ref") => `(tactic| (k_here; (with_reducible show wpAny _ _ (getMethod (Value.ref _) (Str.ofString "keys") _) _ _ _); k_dflt (refine' method_told (T := "method_descriptor") ?F ?X ?N ?x ?d ?f ?t ?y ?_; (case F => k_asm); (case X => k_asm); (case N => k_asm); (case x => k_mem); (case d => k_mem); (case f => exact ke_find _); (case t => exact Looks.of_pure ty_keys); (case y => decide))))
local macro_rules | `(tactic| walk_at "call builtin:dict.keys") => `(tactic| (k_here; (with_reducible show wpAny _ _ (call (Value.builtin "dict.keys") [Value.ref _]) _ _ _); k_dflt (refine' kt_keys ?F ?X ?N ?p ?s ?_; (case F => k_asm); (case X => k_asm); (case N => k_asm); (case p => k_mem); (case s => assumption)); intro D' h' F' N' l1; (try k_lt l1)))
local macro_rules | `(tactic| walk_at "getAttr ref") => `(tactic| (k_here; k_dflt (refine' getAttr_canon ?F ?X ?N ?x ?d ?_; (case F => k_asm); (case X => k_asm); (case N => k_asm); (case x => k_mem); (case d => k_mem))))
local macro_rules | `(tactic| walk_at "call ref") => `(tactic| (k_here; k_dflt (refine' g_canN ?hA0 ?hA ?hcr ?hcu ?B ?F ?X ?N ?U ?T ?HC ?hv ?ht ?hf ?hk ?hE ?h5 ?HT ?_; (case hA0 => exact rfl); (case hA => exact rfl); (case hcr => k_room); (case hcu => walk_at "my_units"); (case B => k_asm); (case F => k_asm); (case X => k_asm); (case N => k_asm); (case U => k_updF); (case T => k_asm); (case HC => first | assumption | exact CodeHd.keeps (by assumption) (Fr.keep (by assumption))); (case hv => k_mem); (case ht => k_mem); (case hf => exact rfl); (case hk => exact rfl); (case hE => assumption); (case h5 => exact GoodC.len (by assumption)); (case HT => walk_at "my_tab"); intro h' tk' D' vs' xs' k' c' oc' ps' F' N' T' S' C' l1; (try dsimp only at N'); (try k_lt l1))))
local macro_rules | `(tactic| walk_at "my_sub2") => `(tactic| (refine List.forall_mem_cons.mpr ⟨List.Mem.head _, List.forall_mem_cons.mpr ⟨List.Mem.tail _ (List.Mem.head _), List.forall_mem_cons.mpr ⟨by k_mem, ?_⟩⟩⟩; walk_at "my_sub"))

theorem c_sk {w : World} {A₀ : Around} {base h₀ : Heap} {outer : List Env} {env : Env} {d u : Nat} {gs : Option (List Code)} {L : Addr} {m mg mb : Str → Option Value} {s : Shared} {p : Program} {loose : List Str} {mean : ExcName → Option Value}
    {told dx : Addr} {es : List DictEntry} {n : Nat} {c : Ents} {rest : List (Addr × Obj)} {ps : Array Value} {Q : Value → Shared → Prop} {E : Value → Shared → Prop}
    (hcr : d + 80 < recursionLimit) (hcu : u + 400 < cLine)
    (B : Below A₀ base outer h₀) (F : Fr h₀ L s.heap m) (X₀ : (hd.heap_39 w.params).In h₀) (N : News h₀ L s.heap ((25, tabObj ps) :: (told, cdObj dx es n) :: (dx, dictOf [] 0) :: rest)) (T : Top p loose mean mg mb h₀) (HC : CodeHd h₀ 27 25)
    (hf : env.frame = some L) (hk : env.scope.kind = .function) (hE : EK w es c) (hG : GoodC c) (hxs : (told == sysModules) = false) (hne : @Ne Nat dx told) (HT : TabSt quC 14 28 ps rest) (ht25 : @Ne Nat told 25) (hd25 : @Ne Nat dx 25) (hr25 : ∀ p ∈ rest, p.1 ≠ 25)
    (hQ : ∀ h' tk D vs xs k c' oc ps', Fr h₀ L h' m → News h₀ L h' ((D, listOf (List.toArray vs) k) :: (c', oc) :: (25, tabObj ps') :: (told, cdObj dx es n) :: (dx, dictOf [] 0) :: rest) → TabNow quC 14 28 ps' c' oc → StrsAre vs xs → CanOut [] (c.map (·.1)) xs → (∀ q ∈ (25, tabObj ps) :: (told, cdObj dx es n) :: (dx, dictOf [] 0) :: rest, @LT.lt Nat _ q.1 D) → Q (.ref D) { s with heap := h', toks := tk }) :
    wpAny (model PP w) ⟨none, d, some (env :: outer), gs, u⟩ (call (.ref 153) [.ref told]) Q E s := by
  have _fill : PySem.Challenge.rw_bl0005_01 = PySem.Challenge.rw_bl0005_01 ∧ hd.heap_39 = hd.heap_39 := by k_fill; exact ⟨rfl, rfl⟩
  refine wpAny_call ?_
  refine' code_def B F X₀ N T rfl hf hk ?k6 ?k7 ?k8 ?k9 ?kB ?_ ?c2 ?c3 ?c4 ?c5
  (case k6 => k_is)
  (case k7 => k_is)
  (case k8 => k_room)
  (case k9 => first | exact BindsTo.of_eq rfl | exact binds_K (X₀.keeps F.keep) rfl (by k_is) rfl rfl rfl)
  (case kB => exact locs rfl)
  (case c2 => exact rfl)
  (case c3 => exact rfl)
  (case c4 => exact rfl)
  (case c5 => decide)
  intro g' L' h' FG' F' N' B' X' T'
  (try dsimp only)
  (try k_lift B')
  k_steps
  refine hQ _ _ _ _ _ _ _ _ _ (by assumption) (news_sub (by assumption) (by walk_at "my_sub2")) (by assumption) (by assumption) (by assumption) ?_
  refine List.forall_mem_cons.mpr ⟨by show @LT.lt Nat _ 25 _; omega, List.forall_mem_cons.mpr ⟨by show @LT.lt Nat _ told _; omega, List.forall_mem_cons.mpr ⟨by show @LT.lt Nat _ dx _; omega, ?_⟩⟩⟩
  refine allLt_mem rest ?_
  walk_at "my_conj"

end Mine
end
section
open PySem PySem.W PyProof.Rows PySem.Calls
set_option maxRecDepth 100000
set_option maxHeartbeats 8000000
theorem Mine.walkResetS48 : True := by w_top off; trivial
namespace Mine
theorem inO_nil (k : Str) : inO [] k = false := rfl
theorem can_nil {keys xs : List Str} (h : CanOut [] keys xs) : xs = sortS keys := by
  obtain ⟨ys, hp, _, rfl⟩ := h
  have e1 : keys.filter (inO []) = [] := List.filter_eq_nil_iff.mpr fun k _ => by rw [inO_nil]; exact Bool.false_ne_true
  have e2 : (keys.filter fun k => !inO [] k) = keys := List.filter_eq_self.mpr fun k _ => by rw [inO_nil]; rfl
  rw [e1] at hp
  rw [List.perm_nil.mp hp, e2]; rfl
theorem can_mem {c : Ents} {xs : List Str} (hG : GoodC c) (h : CanOut [] (c.map (·.1)) xs) : ∀ x ∈ xs, x ∈ c.map (·.1) := by
  rw [can_nil h]
  exact sortS_mem (by rw [List.length_map]; exact hG.len)
theorem cget_mem {c : Ents} {x : Str} (h : x ∈ c.map (·.1)) : ∃ v, cget c x = some v := by
  cases hi : ix c x with
  | some i => obtain ⟨v, _, e⟩ := ix_lt hi; exact ⟨v, e⟩
  | none =>
    exfalso
    obtain ⟨p, hp, rfl⟩ := List.mem_map.mp h
    unfold ix at hi
    have := List.findIdx?_eq_none_iff.mp hi p hp
    simp at this
theorem can_get {c : Ents} {xs : List Str} (hG : GoodC c) (h : CanOut [] (c.map (·.1)) xs) : ∀ x ∈ xs, ∃ v, cget c x = some v := fun x hx => cget_mem (can_mem hG h x hx)
theorem can_up {c : Ents} {xs : List Str} (hG : GoodC c) (h : CanOut [] (c.map (·.1)) xs) {k : Str} (hk : k ∈ xs) : Txt.upper k = k ∧ PySem.Builtin.Str.tooLong (Txt.upper k).length = false := by
  obtain ⟨p, hp, rfl⟩ := List.mem_map.mp (can_mem hG h k hk)
  have := five_upper (hG.2 p hp)
  exact ⟨this.1, this.2.2⟩
theorem can_len {c : Ents} {xs : List Str} (hG : GoodC c) (h : CanOut [] (c.map (·.1)) xs) : xs.length ≤ 1000 := by
  rw [can_nil h, sortS_len (by rw [List.length_map]; exact hG.len), List.length_map]
  have := hG.len; omega
theorem ci_back {h₀ h : Heap} {L D c' : Addr} {o oc t : Obj} {a1 a2 a3 : Addr × Obj} {seg led : List (Addr × Obj)} (N : News h₀ L h ((D, o) :: (seg ++ (a1 :: (c', oc) :: a2 :: a3 :: (25, t) :: led)))) : News h₀ L h ((D, o) :: (seg ++ ((c', oc) :: (25, t) :: led))) := by
  refine news_sub N fun p hp => ?_
  rcases List.mem_cons.mp hp with rfl | hp
  · exact .head _
  · rcases List.mem_append.mp hp with hp | hp
    · exact .tail _ (List.mem_append_left _ hp)
    · refine .tail _ (List.mem_append_right _ ?_)
      rcases List.mem_cons.mp hp with rfl | hp
      · exact .tail _ (.head _)
      · exact .tail _ (.tail _ (.tail _ (.tail _ hp)))
theorem ci_off {D c' : Addr} {oc t t' : Obj} {a1 a2 a3 : Addr × Obj} {led : List (Addr × Obj)} (off : ∀ q ∈ a1 :: (c', oc) :: a2 :: a3 :: (25, t') :: led, q.1 ≠ D) : ∀ q ∈ (25, t) :: led, q.1 ≠ D := by
  intro q hq
  rcases List.mem_cons.mp hq with rfl | hq
  · exact off (25, t') (.tail _ (.tail _ (.tail _ (.tail _ (.head _)))))
  · exact off q (.tail _ (.tail _ (.tail _ (.tail _ (.tail _ hq)))))
end Mine
end
section
open PySem PySem.W PyProof.Rows PySem.Calls
set_option maxRecDepth 100000
set_option maxHeartbeats 8000000
theorem Mine.walkResetS49 : True := by w_top off; trivial
namespace Mine
local macro_rules | `(tactic| k_ne) => `(tactic| (refine neN ?_; (try dsimp only); first | with_reducible assumption | with_reducible exact Ne.symm (by assumption) | with_reducible exact Nat.ne_of_lt (by assumption) | with_reducible exact Nat.ne_of_gt (by assumption)))
local macro_rules | `(tactic| k_in) => `(tactic| first | with_reducible assumption | with_reducible exact Frag.In.keeps (by assumption) (Fr.keep (by assumption)))
local macro_rules | `(tactic| walk_at "callWith ref") => `(tactic| (k_here; k_dflt (first
  | ((with_reducible show wpAny _ _ (callWith _ _ _ (backTo _ (starEach (_ :: _) _)) _) _ _ _); refine' callWith_K ?k1 ?k2 ?_; (case k1 => k_asm); (case k2 => k_is); k_whole)
  | ((with_reducible show wpAny _ _ (callWith _ _ _ (backTo _ (starEach [] _)) _) _ _ _); refine' callWith_K0 ?k1 ?k2 ?_; (case k1 => k_in); (case k2 => k_is); k_whole))))
local macro_rules | `(tactic| walk_at "eval Name") => `(tactic| (k_here; (fail_if_success (with_reducible show wpAny _ _ (eval (Expr.Name _ _) (compEnvC _ _ _ _)) _ _ _)); k_dflt (first
  | (refine' nameX_L ?F ?v ?_ ?a ?b; (case F => k_asm); (case a => rfl); (case b => rfl); (case v => rfl); k_whole)
  | (refine' nameX_C ?N ?c ?m ?d ?_ ?a ?b; (case a => rfl); (case b => rfl); (case N => k_asm); (case c => rfl); (case m => k_mem); (case d => k_asm); k_whole)
  | (refine' nameX_K ?F ?X ?T ?e ?_ ?a ?b; (case F => k_asm); (case X => k_asm); (case T => k_asm); (case a => rfl); (case b => rfl); (case e => k_is); k_whole)
  | (refine' nameX_B ?F ?X ?T ?e ?v ?n ?_ ?a ?b; (case F => k_asm); (case X => k_asm); (case T => k_asm); (case a => rfl); (case b => rfl); (case e => k_is); (case v => boot_fast); (case n => decide); k_whole))))
local macro_rules | `(tactic| k_inst) => `(tactic| (refine' inst_cd ?N ?h1 ?h2; (case N => k_asm); (case h1 => k_mem); (case h2 => k_mem)))
local macro_rules | `(tactic| k_room) => `(tactic| ((try simp only [depth_mark, depth_under_make, depth_under_kw, depth_in1, depth_deeper, depth_caller]); (try simp only [Around.deeper]); omega))
local macro_rules | `(tactic| k_all) => `(tactic| first | assumption | exact List.forall_mem_nil _ | exact allLt_ne (by assumption) (by omega) | (refine' List.forall_mem_cons.mpr ⟨?a, ?b⟩; (case a => k_ne); (case b => k_all)))
local macro_rules | `(tactic| walk_at "my_units") => `(tactic| ((try simp only [units_in1, PySem.Around.deeper_units, Around.mark_units, units_caller]); (try simp only [Around.deeper]); first | omega | (exact Nat.le_of_ble_eq_true rfl)))
local macro_rules | `(tactic| walk_at "my_sub") => `(tactic| (intro p hp; repeat (first | exact hp | refine List.Mem.tail _ ?_)))
local macro_rules | `(tactic| walk_at "my_tab") => `(tactic| exact tab_up (by assumption) (by walk_at "my_sub"))
local macro_rules | `(tactic| walk_at "my_conj") => `(tactic| (rename _ ∧ _ => lz; first | exact lz.2 | (replace lz := lz.2; walk_at "my_conj")))
local macro_rules | `(tactic| walk_at "getMethod ref") => `(tactic| (k_here; (with_reducible show wpAny _ _ (getMethod (Value.ref _) (Str.ofString "keys") _) _ _ _); k_dflt (refine' method_told (T := "method_descriptor") ?F ?X ?N ?x ?d ?f ?t ?y ?_; (case F => k_asm); (case X => k_asm); (case N => k_asm); (case x => k_mem); (case d => k_mem); (case f => exact ke_find _); (case t => exact Looks.of_pure ty_keys); (case y => decide))))
local macro_rules | `(tactic| walk_at "call builtin:dict.keys") => `(tactic| (k_here; (with_reducible show wpAny _ _ (call (Value.builtin "dict.keys") [Value.ref _]) _ _ _); k_dflt (refine' kt_keys ?F ?X ?N ?p ?s ?_; (case F => k_asm); (case X => k_asm); (case N => k_asm); (case p => k_mem); (case s => assumption)); intro D' h' F' N' l1; (try k_lt l1)))
local macro_rules | `(tactic| walk_at "getAttr ref") => `(tactic| (k_here; k_dflt (refine' getAttr_canon ?F ?X ?N ?x ?d ?_; (case F => k_asm); (case X => k_asm); (case N => k_asm); (case x => k_mem); (case d => k_mem))))
local macro_rules | `(tactic| walk_at "call ref") => `(tactic| (k_here; k_dflt (refine' g_canN ?hA0 ?hA ?hcr ?hcu ?B ?F ?X ?N ?U ?T ?HC ?hv ?ht ?hf ?hk ?hE ?h5 ?HT ?_; (case hA0 => exact rfl); (case hA => exact rfl); (case hcr => k_room); (case hcu => walk_at "my_units"); (case B => k_asm); (case F => k_asm); (case X => k_asm); (case N => k_asm); (case U => k_updF); (case T => k_asm); (case HC => first | assumption | exact CodeHd.keeps (by assumption) (Fr.keep (by assumption))); (case hv => k_mem); (case ht => k_mem); (case hf => exact rfl); (case hk => exact rfl); (case hE => assumption); (case h5 => exact GoodC.len (by assumption)); (case HT => walk_at "my_tab"); intro h' tk' D' vs' xs' k' c' oc' ps' F' N' T' S' C' l1; (try dsimp only at N'); (try k_lt l1))))
local macro_rules | `(tactic| walk_at "call ref") => `(tactic| (k_here; k_dflt (refine' v_getitem ?hA0 ?hA ?hcr ?hcu ?B ?F ?X ?N ?hx ?hm ?T ?hf ?hk ?hdx ?hE ?hxs ?hup ?hul ?hv ?_; (case hA0 => exact rfl); (case hA => exact rfl); (case hcr => k_room); (case hcu => walk_at "my_units"); (case B => k_asm); (case F => k_asm); (case X => k_asm); (case N => k_asm); (case hx => k_mem); (case hm => k_mem); (case T => k_asm); (case hf => exact rfl); (case hk => exact rfl); (case hdx => assumption); (case hE => assumption); (case hxs => assumption); (case hup => assumption); (case hul => assumption); (case hv => assumption); intro h' tk' tv' F' N')))
local macro_rules | `(tactic| walk_at "eval ListComp") => `(tactic| (k_here; k_dflt (refine LCg.ListComp_U (F₀ := by k_asm) (by with_unfolding_all rfl) (by decide) (by rfl) (by decide) (by rfl) ?_)))
local macro_rules | `(tactic| walk_at "CompSrc") => `(tactic| (k_here; k_dflt (refine' comp_rows ?hh ?F ?N ?l ?S ?z ?all ?T ?_; (case hh => exact rfl); (case F => k_asm); (case N => k_asm); (case l => k_mem); (case S => assumption); (case z => exact can_len (by assumption) (by assumption)); (case all => exact can_get (by assumption) (by assumption)); (case T => (intro k' t' v' I' oI' C' oC' D' oD' m' h' tk' E' led' hk' hv' hC' hx' F' N' ne'; (try simp only [List.cons_append, List.nil_append] at N'); have hu' := can_up (by assumption) (by assumption) hk'; obtain ⟨hu1', hu2'⟩ := hu'; k_steps))); (intro D' h' tk' as' ep' seg' F' N' R' off')))
local macro_rules | `(tactic| walk_at "EltQ") => `(tactic| exact EltQ.intro (by assumption) (news_sub (by assumption) (by walk_at "my_sub3")) (by omega) (by omega) (by omega))
local macro_rules | `(tactic| walk_at "my_sub3") => `(tactic| (intro p hp; exact hp))
local macro_rules | `(tactic| walk_at "my_sub2") => `(tactic| (refine List.forall_mem_cons.mpr ⟨List.Mem.head _, List.forall_mem_cons.mpr ⟨List.Mem.tail _ (List.Mem.head _), List.forall_mem_cons.mpr ⟨by k_mem, ?_⟩⟩⟩; walk_at "my_sub"))

theorem c_ci {w : World} {A₀ : Around} {base h₀ : Heap} {outer : List Env} {env : Env} {d u : Nat} {gs : Option (List Code)} {L : Addr} {m mg mb : Str → Option Value} {s : Shared} {p : Program} {loose : List Str} {mean : ExcName → Option Value}
    {told dx : Addr} {es : List DictEntry} {n : Nat} {c : Ents} {rest : List (Addr × Obj)} {ps : Array Value} {Q : Value → Shared → Prop} {E : Value → Shared → Prop}
    (hcr : d + 120 < recursionLimit) (hcu : u + 600 < cLine)
    (B : Below A₀ base outer h₀) (F : Fr h₀ L s.heap m) (X₀ : (hd.heap_39 w.params).In h₀) (N : News h₀ L s.heap ((25, tabObj ps) :: (told, cdObj dx es n) :: (dx, dictOf [] 0) :: rest)) (T : Top p loose mean mg mb h₀) (HC : CodeHd h₀ 27 25)
    (hf : env.frame = some L) (hk : env.scope.kind = .function) (hE : EK w es c) (hG : GoodC c) (hxs : (told == sysModules) = false) (hne : @Ne Nat dx told) (HT : TabSt quC 14 28 ps rest) (ht25 : @Ne Nat told 25) (hd25 : @Ne Nat dx 25) (hr25 : ∀ p ∈ rest, p.1 ≠ 25)
    (hQ : ∀ h' tk D as ep seg xs c' oc ps', Fr h₀ L h' m → News h₀ L h' ((D, lstO as ep) :: (seg ++ ((c', oc) :: (25, tabObj ps') :: (told, cdObj dx es n) :: (dx, dictOf [] 0) :: rest))) → TabNow quC 14 28 ps' c' oc → CanOut [] (c.map (·.1)) xs → Rows (valsO c xs) as seg → (∀ q ∈ (25, tabObj ps) :: (told, cdObj dx es n) :: (dx, dictOf [] 0) :: rest, q.1 ≠ D) → Q (.ref D) { s with heap := h', toks := tk }) :
    wpAny (model PP w) ⟨none, d, some (env :: outer), gs, u⟩ (call (.ref 34) [.ref told, .none]) Q E s := by
  have _fill : PySem.Challenge.rw_bl0005_01 = PySem.Challenge.rw_bl0005_01 ∧ hd.heap_39 = hd.heap_39 := by k_fill; exact ⟨rfl, rfl⟩
  refine wpAny_call ?_
  refine' code_defC B F X₀ N T rfl hf hk ?k6 ?k7 ?k8 ?k9 ?kB ?kD ?_ ?c2 ?c3 ?c4
  (case k6 => k_is)
  (case k7 => k_is)
  (case k8 => k_room)
  (case k9 => first | exact BindsTo.of_eq rfl | exact binds_K (X₀.keeps F.keep) rfl (by k_is) rfl rfl rfl)
  (case kB => exact rfl)
  (case kD => decide +kernel)
  (case c2 => exact rfl)
  (case c3 => exact rfl)
  (case c4 => exact rfl)
  intro g' L' h' tk' cells' FG' F' N' Y' B' X' T' l1
  (try k_lt l1)
  k_cells Y'
  (try simp only [List.cons_append, List.nil_append] at N')
  (try dsimp only)
  (try k_lift B')
  (try k_fold)
  have lr := l1.2.2.2
  k_steps
  exact hQ _ _ _ _ _ _ _ _ _ _ (by assumption) (ci_back (by assumption)) (by assumption) (by assumption) (by assumption) (ci_off (by assumption))

end Mine
end
section
open PySem PySem.W PyProof.Rows PySem.Calls
set_option maxRecDepth 100000
set_option maxHeartbeats 8000000
theorem Mine.walkResetS50 : True := by w_top off; trivial
namespace Mine
theorem ci_back2 {h' : Heap} {D c' : Addr} {od oc : Obj} {ps' : Array Value} {seg pre post x : List (Addr × Obj)} {gg : Obj → List (Addr × Obj)} {h₀ : Heap} {L : Addr} (e2 : gg (tabObj ps') = pre ++ (25, tabObj ps') :: post) (N : News h₀ L h' ((D, od) :: (seg ++ ((c', oc) :: (25, tabObj ps') :: (x ++ (pre ++ post)))))) : News h₀ L h' ((D, od) :: (seg ++ ((c', oc) :: gg (tabObj ps')))) := by
  rw [e2]
  refine news_sub N fun p hp => ?_
  rcases List.mem_cons.mp hp with rfl | hp
  · exact .head _
  · rcases List.mem_append.mp hp with hp | hp
    · exact .tail _ (List.mem_append_left _ hp)
    · refine .tail _ (List.mem_append_right _ ?_)
      rcases List.mem_cons.mp hp with rfl | hp
      · exact .head _
      · rcases List.mem_append.mp hp with hp | hp
        · exact .tail _ (.tail _ (List.mem_append_right _ (List.mem_append_left _ hp)))
        · rcases List.mem_cons.mp hp with rfl | hp
          · exact .tail _ (.head _)
          · exact .tail _ (.tail _ (List.mem_append_right _ (List.mem_append_right _ hp)))
section
variable {w : World} {A₀ : Around} {base h₀ : Heap} {outer : List Env} {env : Env} {A : Around} {L : Addr} {m mg mb : Str → Option Value} {s : Shared} {p : Program} {loose : List Str} {mean : ExcName → Option Value}
    {told dx : Addr} {es : List DictEntry} {n : Nat} {c : Ents} {news : List (Addr × Obj)} {gg : Obj → List (Addr × Obj)} {ps : Array Value} {Q : Value → Shared → Prop} {E : Value → Shared → Prop}
theorem g_sk (hA0 : A.handled = none) (hA : A.frames = some (env :: outer)) (hcr : A.depth + 80 < recursionLimit) (hcu : A.units + 400 < cLine)
    (B : Below A₀ base outer h₀) (F : Fr h₀ L s.heap m) (X₀ : (hd.heap_39 w.params).In h₀) (N : News h₀ L s.heap news) (U : UpdF 25 (tabObj ps) news gg) (T : Top p loose mean mg mb h₀) (HC : CodeHd h₀ 27 25)
    (ht : (told, cdObj dx es n) ∈ news) (hm : (dx, dictOf [] 0) ∈ news)
    (hf : env.frame = some L) (hk : env.scope.kind = .function) (hE : EK w es c) (hG : GoodC c) (hxs : (told == sysModules) = false) (hne : @Ne Nat dx told) (HT : TabSt quC 14 28 ps news)
    (hQ : ∀ h' tk D vs xs k c' oc ps', Fr h₀ L h' m → News h₀ L h' ((D, listOf (List.toArray vs) k) :: (c', oc) :: gg (tabObj ps')) → TabNow quC 14 28 ps' c' oc → StrsAre vs xs → CanOut [] (c.map (·.1)) xs → (∀ q ∈ news, @LT.lt Nat _ q.1 D) → Q (.ref D) { s with heap := h', toks := tk }) :
    wpAny (model PP w) A (call (.ref 153) [.ref told]) Q E s := by
  obtain ⟨hd', d, fr, gs, u⟩ := A
  dsimp only at hA0 hA hcr hcu
  subst hA0 hA
  have k1 := upd_sides U ht (by intro h; cases h)
  have k2 := upd_sides U hm (by intro h; cases h)
  obtain ⟨pre, post, e1, e2, p1, p2⟩ := U.split
  subst e1
  refine c_sk (n := n) (rest := pre ++ post) hcr hcu B F X₀ (news_sub N fun p hp => ?_) T HC hf hk hE hG hxs hne (tab_cut N HT) k1 k2 (fun p hp => (List.mem_append.mp hp).elim (p1 p) (p2 p))
    fun h' tk D vs xs k c' oc ps' F' N' T' S' C' l' => hQ h' tk D vs xs k c' oc ps' F' (can_back (x := [(told, cdObj dx es n), (dx, dictOf [] 0)]) (e2 _) N') T' S' C' fun q hq => ?_
  · rcases List.mem_cons.mp hp with rfl | hp
    · exact List.mem_append_right _ (.head _)
    · rcases List.mem_cons.mp hp with rfl | hp
      · exact ht
      · rcases List.mem_cons.mp hp with rfl | hp
        · exact hm
        · exact (List.mem_append.mp hp).elim (List.mem_append_left _) fun h => List.mem_append_right _ (.tail _ h)
  · refine l' q ?_
    rcases List.mem_append.mp hq with h | h
    · exact .tail _ (.tail _ (.tail _ (List.mem_append_left _ h)))
    · rcases List.mem_cons.mp h with rfl | h
      · exact .head _
      · exact .tail _ (.tail _ (.tail _ (List.mem_append_right _ h)))
theorem g_ci (hA0 : A.handled = none) (hA : A.frames = some (env :: outer)) (hcr : A.depth + 120 < recursionLimit) (hcu : A.units + 600 < cLine)
    (B : Below A₀ base outer h₀) (F : Fr h₀ L s.heap m) (X₀ : (hd.heap_39 w.params).In h₀) (N : News h₀ L s.heap news) (U : UpdF 25 (tabObj ps) news gg) (T : Top p loose mean mg mb h₀) (HC : CodeHd h₀ 27 25)
    (ht : (told, cdObj dx es n) ∈ news) (hm : (dx, dictOf [] 0) ∈ news)
    (hf : env.frame = some L) (hk : env.scope.kind = .function) (hE : EK w es c) (hG : GoodC c) (hxs : (told == sysModules) = false) (hne : @Ne Nat dx told) (HT : TabSt quC 14 28 ps news)
    (hQ : ∀ h' tk D as ep seg xs c' oc ps', Fr h₀ L h' m → News h₀ L h' ((D, lstO as ep) :: (seg ++ ((c', oc) :: gg (tabObj ps')))) → TabNow quC 14 28 ps' c' oc → CanOut [] (c.map (·.1)) xs → Rows (valsO c xs) as seg → (∀ q ∈ news, q.1 ≠ D) → Q (.ref D) { s with heap := h', toks := tk }) :
    wpAny (model PP w) A (call (.ref 34) [.ref told, .none]) Q E s := by
  obtain ⟨hd', d, fr, gs, u⟩ := A
  dsimp only at hA0 hA hcr hcu
  subst hA0 hA
  have k1 := upd_sides U ht (by intro h; cases h)
  have k2 := upd_sides U hm (by intro h; cases h)
  obtain ⟨pre, post, e1, e2, p1, p2⟩ := U.split
  subst e1
  refine c_ci (n := n) (rest := pre ++ post) hcr hcu B F X₀ (news_sub N fun p hp => ?_) T HC hf hk hE hG hxs hne (tab_cut N HT) k1 k2 (fun p hp => (List.mem_append.mp hp).elim (p1 p) (p2 p))
    fun h' tk D as ep seg xs c' oc ps' F' N' T' C' R' l' => hQ h' tk D as ep seg xs c' oc ps' F' (ci_back2 (x := [(told, cdObj dx es n), (dx, dictOf [] 0)]) (e2 _) N') T' C' R' fun q hq => ?_
  · rcases List.mem_cons.mp hp with rfl | hp
    · exact List.mem_append_right _ (.head _)
    · rcases List.mem_cons.mp hp with rfl | hp
      · exact ht
      · rcases List.mem_cons.mp hp with rfl | hp
        · exact hm
        · exact (List.mem_append.mp hp).elim (List.mem_append_left _) fun h => List.mem_append_right _ (.tail _ h)
  · refine l' q ?_
    rcases List.mem_append.mp hq with h | h
    · exact .tail _ (.tail _ (.tail _ (List.mem_append_left _ h)))
    · rcases List.mem_cons.mp h with rfl | h
      · exact .head _
      · exact .tail _ (.tail _ (.tail _ (List.mem_append_right _ h)))
end
end Mine
end
section
open PySem PySem.W PyProof.Rows PySem.Calls
set_option maxRecDepth 100000
set_option maxHeartbeats 8000000
theorem Mine.walkResetS51 : True := by w_top off; trivial
namespace Mine
local macro_rules | `(tactic| k_ne) => `(tactic| (refine neN ?_; (try dsimp only); first | with_reducible assumption | with_reducible exact Ne.symm (by assumption) | with_reducible exact Nat.ne_of_lt (by assumption) | with_reducible exact Nat.ne_of_gt (by assumption)))
local macro_rules | `(tactic| k_in) => `(tactic| first | with_reducible assumption | with_reducible exact Frag.In.keeps (by assumption) (Fr.keep (by assumption)))
local macro_rules | `(tactic| walk_at "callWith ref") => `(tactic| (k_here; k_dflt (first
  | ((with_reducible show wpAny _ _ (callWith _ _ _ (backTo _ (starEach (_ :: _) _)) _) _ _ _); refine' callWith_K ?k1 ?k2 ?_; (case k1 => k_asm); (case k2 => k_is); k_whole)
  | ((with_reducible show wpAny _ _ (callWith _ _ _ (backTo _ (starEach [] _)) _) _ _ _); refine' callWith_K0 ?k1 ?k2 ?_; (case k1 => k_in); (case k2 => k_is); k_whole))))
local macro_rules | `(tactic| walk_at "eval Name") => `(tactic| (k_here; (fail_if_success (with_reducible show wpAny _ _ (eval (Expr.Name _ _) (compEnvC _ _ _ _)) _ _ _)); k_dflt (first
  | (refine' nameX_L ?F ?v ?_ ?a ?b; (case F => k_asm); (case a => rfl); (case b => rfl); (case v => rfl); k_whole)
  | (refine' nameX_C ?N ?c ?m ?d ?_ ?a ?b; (case a => rfl); (case b => rfl); (case N => k_asm); (case c => rfl); (case m => k_mem); (case d => k_asm); k_whole)
  | (refine' nameX_K ?F ?X ?T ?e ?_ ?a ?b; (case F => k_asm); (case X => k_asm); (case T => k_asm); (case a => rfl); (case b => rfl); (case e => k_is); k_whole)
  | (refine' nameX_B ?F ?X ?T ?e ?v ?n ?_ ?a ?b; (case F => k_asm); (case X => k_asm); (case T => k_asm); (case a => rfl); (case b => rfl); (case e => k_is); (case v => boot_fast); (case n => decide); k_whole))))
local macro_rules | `(tactic| k_inst) => `(tactic| (refine' inst_cd ?N ?h1 ?h2; (case N => k_asm); (case h1 => k_mem); (case h2 => k_mem)))
local macro_rules | `(tactic| k_room) => `(tactic| ((try simp only [depth_mark, depth_under_make, depth_under_kw, depth_in1, depth_deeper, depth_caller]); (try simp only [Around.deeper]); omega))
local macro_rules | `(tactic| k_all) => `(tactic| first | assumption | exact List.forall_mem_nil _ | exact allLt_ne (by assumption) (by omega) | (refine' List.forall_mem_cons.mpr ⟨?a, ?b⟩; (case a => k_ne); (case b => k_all)))
local macro_rules | `(tactic| walk_at "my_units") => `(tactic| ((try simp only [units_in1, PySem.Around.deeper_units, Around.mark_units, units_caller]); (try simp only [Around.deeper]); first | omega | (exact Nat.le_of_ble_eq_true rfl)))
local macro_rules | `(tactic| walk_at "my_sub") => `(tactic| (intro p hp; repeat (first | exact hp | refine List.Mem.tail _ ?_)))
local macro_rules | `(tactic| walk_at "my_tab") => `(tactic| exact tab_up (by assumption) (by walk_at "my_sub"))
local macro_rules | `(tactic| walk_at "my_conj") => `(tactic| (rename _ ∧ _ => lz; first | exact lz.2 | (replace lz := lz.2; walk_at "my_conj")))
local macro_rules | `(tactic| walk_at "getMethod ref") => `(tactic| (k_here; (with_reducible show wpAny _ _ (getMethod (Value.ref _) (Str.ofString "keys") _) _ _ _); k_dflt (refine' method_told (T := "method_descriptor") ?F ?X ?N ?x ?d ?f ?t ?y ?_; (case F => k_asm); (case X => k_asm); (case N => k_asm); (case x => k_mem); (case d => k_mem); (case f => exact ke_find _); (case t => exact Looks.of_pure ty_keys); (case y => decide))))
local macro_rules | `(tactic| walk_at "call builtin:dict.keys") => `(tactic| (k_here; (with_reducible show wpAny _ _ (call (Value.builtin "dict.keys") [Value.ref _]) _ _ _); k_dflt (refine' kt_keys ?F ?X ?N ?p ?s ?_; (case F => k_asm); (case X => k_asm); (case N => k_asm); (case p => k_mem); (case s => assumption)); intro D' h' F' N' l1; (try k_lt l1)))
local macro_rules | `(tactic| walk_at "getAttr ref") => `(tactic| (k_here; k_dflt (refine' getAttr_canon ?F ?X ?N ?x ?d ?_; (case F => k_asm); (case X => k_asm); (case N => k_asm); (case x => k_mem); (case d => k_mem))))
local macro_rules | `(tactic| walk_at "call ref") => `(tactic| (k_here; k_dflt (refine' g_ci ?hA0 ?hA ?hcr ?hcu ?B ?F ?X ?N ?U ?T ?HC ?ht ?hm ?hf ?hk ?hE ?hG ?hxs ?hne ?HT ?_; (case hA0 => exact rfl); (case hA => exact rfl); (case hcr => k_room); (case hcu => walk_at "my_units"); (case B => k_asm); (case F => k_asm); (case X => k_asm); (case N => k_asm); (case U => k_updF); (case T => k_asm); (case HC => first | assumption | exact CodeHd.keeps (by assumption) (Fr.keep (by assumption))); (case ht => k_mem); (case hm => k_mem); (case hf => exact rfl); (case hk => exact rfl); (case hE => assumption); (case hG => assumption); (case hxs => assumption); (case hne => assumption); (case HT => walk_at "my_tab"); intro h' tk' D' as' ep' seg' xs' c' oc' ps' F' N' T' C' R' off'; (try dsimp only at N'))))

theorem c_si {w : World} {A₀ : Around} {base h₀ : Heap} {outer : List Env} {env : Env} {d u : Nat} {gs : Option (List Code)} {L : Addr} {m mg mb : Str → Option Value} {s : Shared} {p : Program} {loose : List Str} {mean : ExcName → Option Value}
    {told dx : Addr} {es : List DictEntry} {n : Nat} {c : Ents} {rest : List (Addr × Obj)} {ps : Array Value} {Q : Value → Shared → Prop} {E : Value → Shared → Prop}
    (hcr : d + 160 < recursionLimit) (hcu : u + 800 < cLine)
    (B : Below A₀ base outer h₀) (F : Fr h₀ L s.heap m) (X₀ : (hd.heap_39 w.params).In h₀) (N : News h₀ L s.heap ((25, tabObj ps) :: (told, cdObj dx es n) :: (dx, dictOf [] 0) :: rest)) (T : Top p loose mean mg mb h₀) (HC : CodeHd h₀ 27 25)
    (hf : env.frame = some L) (hk : env.scope.kind = .function) (hE : EK w es c) (hG : GoodC c) (hxs : (told == sysModules) = false) (hne : @Ne Nat dx told) (HT : TabSt quC 14 28 ps rest) (ht25 : @Ne Nat told 25) (hd25 : @Ne Nat dx 25) (hr25 : ∀ p ∈ rest, p.1 ≠ 25)
    (hQ : ∀ h' tk D as ep seg xs c' oc ps', Fr h₀ L h' m → News h₀ L h' ((D, lstO as ep) :: (seg ++ ((c', oc) :: (25, tabObj ps') :: (told, cdObj dx es n) :: (dx, dictOf [] 0) :: rest))) → TabNow quC 14 28 ps' c' oc → CanOut [] (c.map (·.1)) xs → Rows (valsO c xs) as seg → (∀ q ∈ (25, tabObj ps) :: (told, cdObj dx es n) :: (dx, dictOf [] 0) :: rest, q.1 ≠ D) → Q (.ref D) { s with heap := h', toks := tk }) :
    wpAny (model PP w) ⟨none, d, some (env :: outer), gs, u⟩ (call (.ref 160) [.ref told]) Q E s := by
  have _fill : PySem.Challenge.rw_bl0005_01 = PySem.Challenge.rw_bl0005_01 ∧ hd.heap_39 = hd.heap_39 := by k_fill; exact ⟨rfl, rfl⟩
  refine wpAny_call ?_
  refine' code_def B F X₀ N T rfl hf hk ?k6 ?k7 ?k8 ?k9 ?kB ?_ ?c2 ?c3 ?c4 ?c5
  (case k6 => k_is)
  (case k7 => k_is)
  (case k8 => k_room)
  (case k9 => first | exact BindsTo.of_eq rfl | exact binds_K (X₀.keeps F.keep) rfl (by k_is) rfl rfl rfl)
  (case kB => exact locs rfl)
  (case c2 => exact rfl)
  (case c3 => exact rfl)
  (case c4 => exact rfl)
  (case c5 => decide)
  intro g' L' h' FG' F' N' B' X' T'
  (try dsimp only)
  (try k_lift B')
  k_steps
  exact hQ _ _ _ _ _ _ _ _ _ _ (by assumption) (by assumption) (by assumption) (by assumption) (by assumption) (by assumption)

end Mine
end
section
open PySem PySem.W PyProof.Rows PySem.Calls
set_option maxRecDepth 100000
set_option maxHeartbeats 8000000
theorem Mine.walkResetS52 : True := by w_top off; trivial
namespace Mine
section
variable {w : World} {A₀ : Around} {base h₀ : Heap} {outer : List Env} {env : Env} {A : Around} {L : Addr} {m mg mb : Str → Option Value} {s : Shared} {p : Program} {loose : List Str} {mean : ExcName → Option Value}
    {told dx : Addr} {es : List DictEntry} {n : Nat} {c : Ents} {news : List (Addr × Obj)} {gg : Obj → List (Addr × Obj)} {ps : Array Value} {Q : Value → Shared → Prop} {E : Value → Shared → Prop}
theorem g_si (hA0 : A.handled = none) (hA : A.frames = some (env :: outer)) (hcr : A.depth + 160 < recursionLimit) (hcu : A.units + 800 < cLine)
    (B : Below A₀ base outer h₀) (F : Fr h₀ L s.heap m) (X₀ : (hd.heap_39 w.params).In h₀) (N : News h₀ L s.heap news) (U : UpdF 25 (tabObj ps) news gg) (T : Top p loose mean mg mb h₀) (HC : CodeHd h₀ 27 25)
    (ht : (told, cdObj dx es n) ∈ news) (hm : (dx, dictOf [] 0) ∈ news)
    (hf : env.frame = some L) (hk : env.scope.kind = .function) (hE : EK w es c) (hG : GoodC c) (hxs : (told == sysModules) = false) (hne : @Ne Nat dx told) (HT : TabSt quC 14 28 ps news)
    (hQ : ∀ h' tk D as ep seg xs c' oc ps', Fr h₀ L h' m → News h₀ L h' ((D, lstO as ep) :: (seg ++ ((c', oc) :: gg (tabObj ps')))) → TabNow quC 14 28 ps' c' oc → CanOut [] (c.map (·.1)) xs → Rows (valsO c xs) as seg → (∀ q ∈ news, q.1 ≠ D) → Q (.ref D) { s with heap := h', toks := tk }) :
    wpAny (model PP w) A (call (.ref 160) [.ref told]) Q E s := by
  obtain ⟨hd', d, fr, gs, u⟩ := A
  dsimp only at hA0 hA hcr hcu
  subst hA0 hA
  have k1 := upd_sides U ht (by intro h; cases h)
  have k2 := upd_sides U hm (by intro h; cases h)
  obtain ⟨pre, post, e1, e2, p1, p2⟩ := U.split
  subst e1
  refine c_si (n := n) (rest := pre ++ post) hcr hcu B F X₀ (news_sub N fun p hp => ?_) T HC hf hk hE hG hxs hne (tab_cut N HT) k1 k2 (fun p hp => (List.mem_append.mp hp).elim (p1 p) (p2 p))
    fun h' tk D as ep seg xs c' oc ps' F' N' T' C' R' l' => hQ h' tk D as ep seg xs c' oc ps' F' (ci_back2 (x := [(told, cdObj dx es n), (dx, dictOf [] 0)]) (e2 _) N') T' C' R' fun q hq => ?_
  · rcases List.mem_cons.mp hp with rfl | hp
    · exact List.mem_append_right _ (.head _)
    · rcases List.mem_cons.mp hp with rfl | hp
      · exact ht
      · rcases List.mem_cons.mp hp with rfl | hp
        · exact hm
        · exact (List.mem_append.mp hp).elim (List.mem_append_left _) fun h => List.mem_append_right _ (.tail _ h)
  · refine l' q ?_
    rcases List.mem_append.mp hq with h | h
    · exact .tail _ (.tail _ (.tail _ (List.mem_append_left _ h)))
    · rcases List.mem_cons.mp h with rfl | h
      · exact .head _
      · exact .tail _ (.tail _ (.tail _ (List.mem_append_right _ h)))
end
end Mine
end
section
open PySem PySem.W PyProof.Rows PySem.Calls PyProof.Rows.LCg
set_option maxRecDepth 100000
set_option maxHeartbeats 8000000
theorem Mine.walkResetS53 : True := by w_top off; trivial
namespace Mine
-- the three ranks
section
variable {w : World} {A : Around} {E : Value → Shared → Prop} {s : Shared} {h₀ : Heap} {L : Addr} {m : Str → Option Value} {env : Env} {elt : Expr} {x : Str} {scope : Scope} {cl : List (Str × Addr)}
abbrev stO (sl : Addr) (i t : Int) (ti tt : Tok) (e1 : Nat) : Obj := W.listOf #[.ref sl, .int i ti, .int t tt] e1
def RankE (h₀ : Heap) (L : Addr) (m : Str → Option Value) (s₀ : Shared) (st sl : Addr) (len : Nat) (pre post : List (Addr × Obj)) (y : Value) (s' : Shared) : Prop :=
  ∃ r tr i t ti tt e1 h' tk', y = .str r tr ∧ s' = { s₀ with heap := h', toks := tk' } ∧ r ∈ five ∧ 0 ≤ i ∧ i ≤ (len : Int) ∧ Fr h₀ L h' m ∧ News h₀ L h' (pre ++ (st, stO sl i t ti tt e1) :: post)
theorem RankE.intro {s₀ : Shared} {st sl : Addr} {len : Nat} {pre post : List (Addr × Obj)} {r : Str} {tr : Tok} {i t : Int} {ti tt : Tok} {e1 : Nat} {h' : Heap} {tk' : Nat} (F : Fr h₀ L h' m) (N : News h₀ L h' (pre ++ (st, stO sl i t ti tt e1) :: post)) (hr : r ∈ five) (h0 : 0 ≤ i) (h1 : i ≤ (len : Int)) :
    RankE h₀ L m s₀ st sl len pre post (.str r tr) { s₀ with heap := h', toks := tk' } := ⟨r, tr, i, t, ti, tt, e1, h', tk', rfl, rfl, hr, h0, h1, F, N⟩
theorem off3_obj {I C D y : Addr} {o o' : Obj} : ∀ {pre post : List (Addr × Obj)}, Off3 I C D (pre ++ (y, o) :: post) → Off3 I C D (pre ++ (y, o') :: post) := by
  intro pre
  induction pre with
  | nil => intro post h; exact ⟨h.1, h.2⟩
  | cons a r ih => intro post h; exact ⟨h.1, ih h.2⟩
def RankH (w : World) (A : Around) (h₀ : Heap) (L : Addr) (m : Str → Option Value) (env : Env) (elt : Expr) (scope : Scope) (cl : List (Str × Addr)) (s : Shared) (st sl : Addr) (len : Nat) (pre post : List (Addr × Obj)) : Prop :=
  ∀ i t ti tt e1 I oI C oC D oD m₂ h tk (E' : Value → Shared → Prop), 0 ≤ i → i ≤ (len : Int) → NsObj oC m₂ → Fr h₀ L h m → News h₀ L h ((I, oI) :: (C, oC) :: (D, oD) :: (pre ++ (st, stO sl i t ti tt e1) :: post)) → Off3 I C D (pre ++ (st, stO sl i t ti tt e1) :: post) → ((@Ne Nat I C) ∧ (@Ne Nat I D) ∧ (@Ne Nat C D)) →
    wpAny (model PP w) A (eval elt (compEnvC scope cl C env)) (RankE h₀ L m s st sl len ((I, oI) :: (C, oC) :: (D, oD) :: pre) post) E' { s with heap := h, toks := tk }
theorem rest_ranks {st sl : Addr} {len : Nat} {pre post : List (Addr × Obj)} {P : Nat → Value → Prop} {Fin : List Value → List (Addr × Obj) → Prop} (T : RankH w A h₀ L m env elt scope cl s st sl len pre post) :
    ∀ (j k : Nat) (ys : List Value) (xs : List Str) (i t : Int) (ti tt : Tok) (e1 : Nat), 0 ≤ i → i ≤ (len : Int) → StrsAre ys xs → (∀ x ∈ xs, x ∈ five) →
      (∀ ys xs i t ti tt e1, StrsAre ys xs → (∀ x ∈ xs, x ∈ five) → 0 ≤ i → i ≤ (len : Int) → xs.length = k + j → Fin ys (pre ++ (st, stO sl i t ti tt e1) :: post)) → xs.length = k →
      CompRest PP w A h₀ L m env elt x scope cl s (fun _ => True) P Fin j k ys (pre ++ (st, stO sl i t ti tt e1) :: post)
  | 0, k, ys, xs, i, t, ti, tt, e1, h0, h1, hS, hf, fin, hl => CompRest.zero (fin ys xs i t ti tt e1 hS hf h0 h1 hl)
  | j + 1, k, ys, xs, i, t, ti, tt, e1, h0, h1, hS, hf, fin, hl => by
    refine CompRest.succ fun v I oI C oC D m₂ h tk E' _ hC _ F N off ne => ?_
    refine wpAny_mono (T i t ti tt e1 I oI C oC D (lst ys) m₂ h tk E' h0 h1 hC F N off ne) (fun y s' hy => ?_) fun _ _ e => e
    obtain ⟨r, tr, i', t', ti', tt', e1', h', tk', rfl, rfl, hr, h0', h1', F', N'⟩ := hy
    refine CompEnd.intro F' N' (pre ++ (st, stO sl i' t' ti' tt' e1') :: post) (fun p hp => hp) (off3_obj off) trivial ?_
    refine rest_ranks T j (k + 1) (ys ++ [.str r tr]) (xs ++ [r]) i' t' ti' tt' e1' h0' h1' (strs_snoc hS) (fun x hx => ?_) (fun ys xs i t ti tt e1 a b c d e => fin ys xs i t ti tt e1 a b c d (by omega)) (by rw [List.length_append, hl]; rfl)
    rcases List.mem_append.mp hx with hx | hx
    · exact hf x hx
    · rw [List.mem_singleton.mp hx]; exact hr
theorem comp_ranks {st sl r : Addr} {len : Nat} {pre post : List (Addr × Obj)} {Q : Value → Shared → Prop} {i t : Int} {ti tt : Tok} {e1 : Nat} {a b c : Tok} (hh : A.handled = none) (F : Fr h₀ L s.heap m) (N : News h₀ L s.heap (pre ++ (st, stO sl i t ti tt e1) :: post)) (hr : IsRange s.heap r 0 3 1 a b c) (h0 : 0 ≤ i) (h1 : i ≤ (len : Int))
    (T : RankH w A h₀ L m env elt scope cl s st sl len pre post)
    (fin : ∀ D h tk r0 t0 r1 t1 r2 t2 i t ti tt e1 k, r0 ∈ five → r1 ∈ five → r2 ∈ five → 0 ≤ i → i ≤ (len : Int) → Fr h₀ L h m → News h₀ L h ((D, listOf (List.toArray [.str r0 t0, .str r1 t1, .str r2 t2]) k) :: (pre ++ (st, stO sl i t ti tt e1) :: post)) → Off1 D (pre ++ (st, stO sl i t ti tt e1) :: post) → Q (.ref D) { s with heap := h, toks := tk }) :
    CompSrc PP w A h₀ L m env elt x scope cl (fun s₂ => FinE h₀ L m s₂ Q) (.ref r) s := by
  refine CompSrc.range (n := 3) hh F N hr (by decide) (by rfl) (by rw [sizeLine_eq]; omega) fun g => ?_
  refine rest_ranks (s := { s with heap := g }) (fun i t ti tt e1 I oI C oC D oD m₂ h tk E' a1 a2 a3 a4 a5 a6 a7 => T i t ti tt e1 I oI C oC D oD m₂ h tk E' a1 a2 a3 a4 a5 a6 a7) 3 0 [] [] i t ti tt e1 h0 h1 .nil (fun _ h => nomatch h) (fun ys xs i t ti tt e1 hS hf b0 b1 hl D h tk F' N' off => ?_) rfl
  match ys, xs, hS, hf, hl with
  | _, _, .cons x0 t0 (.cons x1 t1 (.cons x2 t2 .nil)), hf, _ => exact fin D h tk x0 t0 x1 t1 x2 t2 i t ti tt e1 _ (hf _ (by simp)) (hf _ (by simp)) (hf _ (by simp)) b0 b1 F' N' off
  | _, _, .nil, _, hl => simp at hl
  | _, _, .cons _ _ .nil, _, hl => simp at hl
  | _, _, .cons _ _ (.cons _ _ .nil), _, hl => simp at hl
  | _, _, .cons _ _ (.cons _ _ (.cons _ _ (.cons _ _ _))), _, hl => simp at hl
end
end Mine
end
section
open PySem PySem.W PyProof.Rows PySem.Calls PyProof.Rows.LCg
set_option maxRecDepth 100000
set_option maxHeartbeats 8000000
theorem Mine.walkResetS54 : True := by w_top off; trivial
namespace Mine
-- [name for place, name in enumerate(list) if test]
def firstP (c : Ents) (xs : List Str) (i : Nat) (x : Str) : Bool := (cget c x).isSome && !((xs.drop (i + 1)).any (· == x))
theorem firstP_t {c : Ents} {xs : List Str} {i : Nat} {x : Str} (h : (cget c x).isSome = true) : (!((xs.drop (i + 1)).any (· == x))) = firstP c xs i x := by unfold firstP; rw [h]; rfl
theorem firstP_tt {c : Ents} {xs : List Str} {i : Nat} {x : Str} (h : (cget c x).isSome = true) (h2 : ((xs.drop (i + 1)).any (· == x)) = true) : false = firstP c xs i x := by unfold firstP; rw [h, h2]; rfl
theorem firstP_tf {c : Ents} {xs : List Str} {i : Nat} {x : Str} (h : (cget c x).isSome = true) (h2 : ((xs.drop (i + 1)).any (· == x)) = false) : true = firstP c xs i x := by unfold firstP; rw [h, h2]; rfl
theorem firstP_f {c : Ents} {xs : List Str} {i : Nat} {x : Str} (h : (cget c x).isSome = false) : false = firstP c xs i x := by unfold firstP; rw [h]; rfl
noncomputable def pickE (p : Nat → Str → Bool) : Nat → List Str → List Str
  | _, [] => []
  | i, x :: xs => if p i x = true then x :: pickE p (i + 1) xs else pickE p (i + 1) xs
section
variable {w : World} {A : Around} {E : Value → Shared → Prop} {s : Shared} {h₀ : Heap} {L : Addr} {m : Str → Option Value} {env : Env}
def TestI (w : World) (A : Around) (h₀ : Heap) (L : Addr) (m : Str → Option Value) (env : Env) (ct : Expr) (a b : Str) (scope : Scope) (cl : List (Str × Addr)) (s : Shared) (news : List (Addr × Obj)) (xs : List Str) (p : Nat → Str → Bool) : Prop :=
  ∀ (i : Nat) x t ti e oe it oit C oC D oD m₂ h tk (E' : Value → Shared → Prop), xs[i]? = some x → NsObj oC m₂ → m₂ a = some (.int i ti) → m₂ b = some (.str x t) → Fr h₀ L h m → News h₀ L h ((e, oe) :: (it, oit) :: (C, oC) :: (D, oD) :: news) →
    wpAny (model PP w) A (isTrue ct (compEnvC scope cl C env) (eval ct (compEnvC scope cl C env))) (TestE h₀ L m s (p i x) ((e, oe) :: (it, oit) :: (C, oC) :: (D, oD) :: news)) E' { s with heap := h, toks := tk }
theorem enum_block {RR : Value → Addr → Result → Shared → Prop} {iter ct : Expr} {a b : Str} {pa pb pb2 tp : Pos} {kk : Nat} {scope : Scope} {cl : List (Str × Addr)} {pos : Pos} {s₁ : Shared} {e it l : Addr} {n : Nat} {vs : List Value} {xs : List Str} {news : List (Addr × Obj)} {p : Nat → Str → Bool}
    (hcell : ∀ y ∈ scope.names, y.2 ≠ .cell) (hkind : scope.kind = .function) (hxa : scope.names.lookup a = some .local) (hxb : scope.names.lookup b = some .local) (hab : a ≠ b) (hdb : (b == ("__debug__" : Str)) = false)
    (hh : A.handled = none) (ei : e ≠ it) (le : l ≠ e) (li : l ≠ it) (Le : L ≠ e) (Li : L ≠ it) (e0 : h₀.get? e = none) (i0 : h₀.get? it = none) (off : ∀ q ∈ news, q.1 ≠ e ∧ q.1 ≠ it) (F : Fr h₀ L s₁.heap m) (N : News h₀ L s₁.heap news) (hE : IsEnum s₁.heap e it 0 .none) (hI : s₁.heap.IsListIter it l 0)
    (hl : (l, listOf (List.toArray vs) n) ∈ news) (hS : StrsAre vs xs) (hz : xs.length ≤ 900) (T : TestI w A h₀ L m env ct a b scope cl s₁ news xs p)
    (hRR : ∀ D C h tk m' ys, Fr h₀ L h m → News h₀ L h ((D, lst ys) :: news) → Off1 D news → h.Ns C m' → h₀.get? C = none → h₀.get? D = none → C ≠ L → D ≠ L → D ≠ C → (∀ q ∈ news, q.1 ≠ C) → StrsAre ys (pickE p 0 xs) → RR (.ref D) C (.ok .next) { s₁ with heap := h, toks := tk }) :
    wpAny (model PP w) A (newList []) (fun acc s₃ => wpAny (model PP w) A (newFunctionEnv scope env.globals cl [] env.qual none .none (some env)) (fun cenv s₄ =>
      codeAny (model PP w) A (.compStart (.ListComp (.Name b pb2) [⟨.Tuple [.Name a pa, .Name b pb] kk tp, iter, [ct], 0⟩] scope pos) 0 (.ref e) acc { cenv with scope := relabel scope env }) (RR acc cenv.locals) s₄) E s₃) E s₁ := by
  have hvl : vs.length = xs.length := StrsAre.length hS
  refine wpAny_newObj_type (wpAny_newFunctionEnv hcell (by intro y hy; simp at hy) (fun h₁ hns₁ hsb₁ => ?_) hkind)
  dsimp only at hns₁ hsb₁ ⊢
  generalize hH2 : s₁.heap.push { cls := .type "list", dict := none, data := .seq ([] : List Value).toArray } = H2 at hns₁ hsb₁ ⊢
  have hC : H2.objs.size = s₁.heap.objs.size + 1 := by rw [← hH2, Heap.size_push]
  have hDC : s₁.heap.objs.size ≠ H2.objs.size := by rw [hC]; exact Nat.ne_of_lt (Nat.lt_succ_self _)
  have below : ∀ b, b < s₁.heap.objs.size → b ≠ H2.objs.size ∧ b ≠ s₁.heap.objs.size := fun b hb => ⟨by rw [hC]; exact Nat.ne_of_lt (Nat.lt_succ_of_lt hb), Nat.ne_of_lt hb⟩
  have old : ∀ b o, s₁.heap.get? b = some o → h₁.get? b = some o := fun b o e => hsb₁.extBut b o (below b (Heap.lt_size e)).1 (Heap.get?_push_of_some _ (hH2 ▸ Heap.get?_push_of_some _ e))
  have hacc : h₁.get? s₁.heap.objs.size = some (lst []) := hsb₁.extBut _ _ hDC (Heap.get?_push_of_some _ (hH2 ▸ Heap.get?_push_size _ rfl))
  have hlt := Heap.lt_size (N _ hl).1
  have hL : L < s₁.heap.objs.size := F.ns.lt
  have f0 : ∀ a, s₁.heap.objs.size ≤ a → h₀.get? a = none := fun a ha => Heap.get?_none_of_le (Nat.le_trans F.above (Nat.le_trans (Nat.le_of_lt hL) ha))
  have helt : e < s₁.heap.objs.size := Heap.lt_size hE
  have hilt : it < s₁.heap.objs.size := let ⟨_, x, _⟩ := hI; Heap.lt_size x
  have hnl : ∀ q ∈ news, q.1 < s₁.heap.objs.size := fun q hq => Heap.lt_size (N q hq).1
  have C0 := f0 H2.objs.size (by rw [hC]; exact Nat.le_succ _)
  have D0 := f0 _ (Nat.le_refl s₁.heap.objs.size)
  have S : ∀ o, EnSep h₀ L e it l H2.objs.size ((s₁.heap.objs.size, o) :: news) := fun o =>
    ⟨ei, le, li, Ne.symm (below _ helt).1, Ne.symm (below _ hilt).1, Ne.symm (below _ hlt).1, Ne.symm (below _ hL).1, Le, Li, e0, i0, C0, fun q hq => by
      rcases List.mem_cons.mp hq with rfl | hq
      · exact ⟨Ne.symm (below _ helt).2, Ne.symm (below _ hilt).2, hDC⟩
      · exact ⟨(off q hq).1, (off q hq).2, (below _ (hnl q hq)).1⟩⟩
  have I₀ : EnInv h₀ L m e it l H2.objs.size vs.toArray ((s₁.heap.objs.size, lst []) :: news) _ 0 h₁ :=
    ⟨⟨⟨_, old _ _ hE⟩, hI.at fun o x => old _ o x, (News.isList N hl).at fun o x => old _ o x⟩, F.keeps old, hns₁, fun q hq => by
      rcases List.mem_cons.mp hq with rfl | hq
      · exact ⟨hacc, Ne.symm (below _ hL).2, D0⟩
      · exact ⟨old _ _ (N q hq).1, (N q hq).2⟩⟩
  have off1 : Off1 s₁.heap.objs.size news := (Off3.of (I := s₁.heap.objs.size) (C := s₁.heap.objs.size) fun p hp => ⟨Nat.ne_of_lt (hnl p hp), Nat.ne_of_lt (hnl p hp), Nat.ne_of_lt (hnl p hp)⟩).one
  have loop : ∀ s₃ : Shared, (∃ tk, s₃ = { s₁ with heap := h₁, toks := tk }) →
      codeAny (model PP w) A (.compLoop (.ListComp (.Name b pb2) [⟨.Tuple [.Name a pa, .Name b pb] kk tp, iter, [ct], 0⟩] scope pos) 0 (.ref e) (.ref s₁.heap.objs.size) (compEnvC scope cl H2.objs.size env))
        (RR (.ref s₁.heap.objs.size) H2.objs.size) s₃ := by
    rintro s₃ ⟨tk, rfl⟩
    refine kct_loop (fun k s' => ∃ h' tk i mC ys zs, s' = { s₁ with heap := h', toks := tk } ∧ i ≤ xs.length ∧ k = xs.length + 1 - i ∧ EnInv h₀ L m e it l H2.objs.size vs.toArray ((s₁.heap.objs.size, lst ys) :: news) mC i h' ∧
      StrsAre ys zs ∧ ys.length ≤ i ∧ zs ++ pickE p i (xs.drop i) = pickE p 0 xs) ?_ (xs.length + 1) ⟨h₁, tk, 0, _, [], [], rfl, Nat.zero_le _, rfl, I₀, .nil, Nat.le_refl _, rfl⟩
    rintro k s' ⟨h', tk, i, mC, ys, zs, rfl, hi, rfl, Iv, hys, hyl, hm⟩
    by_cases hlti : i < xs.length
    · obtain ⟨t, hv⟩ := strs_getD hS i hlti
      have hxi : xs[i]? = some (xs.getD i noStr) := by rw [List.getD_eq_getElem?_getD, List.getElem?_eq_getElem hlti]; rfl
      have hx : vs.toArray[i]? = some (.str (xs.getD i noStr) t) := by
        rw [← hv, List.getElem?_toArray, List.getD_eq_getElem?_getD, List.getElem?_eq_getElem (by omega)]; rfl
      have hd : xs.drop i = xs.getD i noStr :: xs.drop (i + 1) := by
        rw [List.drop_eq_getElem_cons hlti, List.getD_eq_getElem?_getD, List.getElem?_eq_getElem hlti]; rfl
      refine enum_turn (env := compEnvC scope cl H2.objs.size env) (a := a) (b := b) hh rfl (S _) Iv (lookup_relabel_local hxa) (lookup_relabel_local hxb) (by simp [compEnvC, relabel, hkind]) hx fun h2 tk2 t2 I2 => ?_
      obtain ⟨oldv, he2⟩ := I2.st.1
      obtain ⟨oit, hit2, hit3⟩ := I2.st.2.1
      obtain ⟨oC, hC2, hCm⟩ := ns_obj I2.ns
      have N2 : News h₀ L h2 ((e, _) :: (it, oit) :: (H2.objs.size, oC) :: (s₁.heap.objs.size, lst ys) :: news) := fun q hq => by
        rcases List.mem_cons.mp hq with rfl | hq
        · exact ⟨he2, Ne.symm Le, e0⟩
        · rcases List.mem_cons.mp hq with rfl | hq
          · exact ⟨hit2, Ne.symm Li, i0⟩
          · rcases List.mem_cons.mp hq with rfl | hq
            · exact ⟨hC2, Ne.symm (below _ hL).1, C0⟩
            · exact I2.N q hq
      refine wpAny_mono (T i (xs.getD i noStr) t t2 e _ it oit H2.objs.size oC s₁.heap.objs.size (lst ys) _ h2 tk2 _ hxi hCm (by simp [hab]) (by simp) I2.F N2) (fun ok s4 hok => ?_) fun _ _ z => z
      obtain ⟨rfl, h4, tk4, rfl, F4, N4⟩ := hok
      have zC := (N4 (H2.objs.size, oC) (.tail _ (.tail _ (.head _)))).1
      have NI : News h₀ L h4 ((s₁.heap.objs.size, lst ys) :: news) := fun q hq => N4 q (.tail _ (.tail _ (.tail _ hq)))
      have I4 : EnInv h₀ L m e it l H2.objs.size vs.toArray ((s₁.heap.objs.size, lst ys) :: news) _ (i + 1) h4 :=
        ⟨⟨⟨oldv, (N4 (e, _) (.head _)).1⟩, ⟨oit, (N4 (it, oit) (.tail _ (.head _))).1, hit3⟩, News.isList NI (.tail _ hl)⟩, F4, hCm.ns zC, NI⟩
      cases hp : p i (xs.getD i noStr) with
      | true =>
        simp only [if_true]
        refine wpAny_Name (wpAny_loadName_local (by simp [compEnvC, relabel, hkind]) (lookup_relabel_local hxb) I4.ns (by simp; rfl) ?_) hdb
        refine append_at (hsz := by show ys.toArray.size ≤ sizeLine; rw [List.size_toArray, sizeLine_eq]; omega) (NI _ (.head _)).1 fun h5 hs5 hD5 => ?_
        refine ⟨xs.length + 1 - (i + 1), by omega, h5, tk4, i + 1, _, ys ++ [.str (xs.getD i noStr) t], zs ++ [xs.getD i noStr], rfl, hlti, rfl, I4.set hs5 (hD5.trans (congrArg some (lst_snoc ys _))) (below _ helt).2 (below _ hilt).2 (below _ hlt).2 (Ne.symm hDC) (fun q hq => Nat.ne_of_lt (hnl q hq)), strs_snoc hys, ?_, ?_⟩
        · rw [List.length_append, List.length_singleton]; omega
        · rw [← hm, hd, List.append_assoc]
          show zs ++ (xs.getD i noStr :: pickE p (i + 1) (xs.drop (i + 1))) = zs ++ pickE p i (xs.getD i noStr :: xs.drop (i + 1))
          rw [show pickE p i (xs.getD i noStr :: xs.drop (i + 1)) = if p i (xs.getD i noStr) = true then xs.getD i noStr :: pickE p (i + 1) (xs.drop (i + 1)) else pickE p (i + 1) (xs.drop (i + 1)) from rfl, if_pos hp]
      | false =>
        simp only [Bool.false_eq_true, if_false]
        refine ⟨xs.length + 1 - (i + 1), by omega, h4, tk4, i + 1, _, ys, zs, rfl, hlti, rfl, I4, hys, by omega, ?_⟩
        rw [← hm, hd]
        rw [show pickE p i (xs.getD i noStr :: xs.drop (i + 1)) = if p i (xs.getD i noStr) = true then xs.getD i noStr :: pickE p (i + 1) (xs.drop (i + 1)) else pickE p (i + 1) (xs.drop (i + 1)) from rfl, if_neg (by rw [hp]; exact Bool.false_ne_true)]
    · obtain rfl : i = xs.length := by omega
      have hsz : xs.length = vs.toArray.size := by rw [List.size_toArray, hvl]
      rw [hsz] at Iv
      refine enum_end hh (S _) Iv fun h2 tk2 F2 N2 ns2 => ?_
      rw [List.drop_length] at hm
      refine hRR _ _ h2 tk2 _ ys F2 N2 off1 ns2 C0 D0 (Ne.symm (below _ hL).1) (Ne.symm (below _ hL).2) hDC (fun q hq => (below _ (hnl q hq)).1) ?_
      rw [← hm]
      show StrsAre ys (zs ++ [])
      rw [List.append_nil]; exact hys
  exact codeAny_compStart_list (loop _ ⟨_, rfl⟩) (wpAny_pyIter_enum (old _ _ hE) (loop _ ⟨_, rfl⟩))
theorem lc_enumA {Q : Flow → Shared → Prop} {iter ct : Expr} {y a b : Str} {py pa pb pb2 tp : Pos} {kk : Nat} {scope : Scope} {cl : List (Str × Addr)} {pos spos : Pos} (_F₀ : Fr h₀ L s.heap m) (hLe : env.locals = L)
    (hsw : swapsWith (.ListComp (.Name b pb2) [⟨.Tuple [.Name a pa, .Name b pb] kk tp, iter, [ct], 0⟩] scope pos) (some (.Name y py)) spos.line env = pure true)
    (hclos : closureFor scope env = pure cl) (hcell : ∀ y ∈ scope.names, y.2 ≠ .cell) (hkind : scope.kind = .function)
    (hnames : ∀ y ∈ scope.names, y.2 = .local → scope.names.lookup y.1 = some .local) (hxa : scope.names.lookup a = some .local) (hxb : scope.names.lookup b = some .local) (hab : a ≠ b) (hdb : (b == ("__debug__" : Str)) = false)
    (hy : env.kindOf y = some .local) (hp : (env.scope.kind == .class || (env.scope.kind == .module && env.locals != env.globals)) = false)
    (h : wpAny (model PP w) A (eval iter env) (ESrc A h₀ L m fun s₁ _ xs news => ∃ p, TestI w A h₀ L m env ct a b scope cl s₁ news xs p ∧ ∀ D h' tk vs k, Fr h₀ L h' (fun z => if z = y then some (.ref D) else m z) → News h₀ L h' ((D, listOf (List.toArray vs) k) :: news) → Off1 D news → StrsAre vs (pickE p 0 xs) → Q .next { s₁ with heap := h', toks := tk }) E s)
    (hs : ∀ x, foldedSetIterable iter env x = pure x := by intro _; rfl) :
    wpAny (model PP w) A (exec (.Assign [.Name y py] (.ListComp (.Name b pb2) [⟨.Tuple [.Name a pa, .Name b pb] kk tp, iter, [ct], 0⟩] scope pos) spos) env) Q E s := by
  subst hLe
  rw [exec_Assign_Name_used _ _ _ _ hsw]
  refine wpAny_bind (wpAny_standAt (wpAny_bind ?_))
  show wpAny _ A (do let _ ← comprehension (.ListComp (.Name b pb2) [⟨.Tuple [.Name a pa, .Name b pb] kk tp, iter, [ct], 0⟩] scope pos) scope env _ (newList []) false (eval iter env) (some (assign (.Name y py) env))) _ _ s
  refine wpAny_bind (wpAny_mono (wpAny_comprehension_free (use := some (assign (.Name y py) env)) (Q := fun _ s' => Q .next s') rfl hs hclos hkind hnames
    (wpAny_mono h (fun xv s₁ h₁ => ?_) fun _ _ e => e)) (fun _ s' hq => wpAny_pure (wpAny_pure hq)) fun _ _ e => e)
  obtain ⟨e, it, l, n, vs, xs, news, rfl, hh, ei, le, li, Le, Li, e0, i0, off, F, N, hE, hI, hl, hS, hz, p, T, fin⟩ := h₁
  refine wpAny_pyIter_enum hE ?_
  refine enum_block hcell hkind hxa hxb hab hdb hh ei le li Le Li e0 i0 off F N hE hI hl hS hz T fun D C h2 tk m' ys F' N' o1 hn C0 D0 hCL hDL hDC offC hyy => ?_
  show wpAny _ A (assign (.Name y py) env (.ref D)) _ _ _
  refine wpAny_assign_Name (wpAny_storeName_local hy F'.ns (fun h₃ hn₃ hs₃ => ?_) hp)
  have hL₀ : h₀.get? env.locals = none := Heap.get?_none_of_le F'.above
  have F₃ : Fr h₀ env.locals h₃ (fun z => if z = y then some (.ref D) else m z) := ⟨hn₃, fun b o e => hs₃.extBut b o (fun q => by rw [q, hL₀] at e; cases e) (F'.keep b o e), F'.above⟩
  refine ⟨m', hn.sameBut hs₃ hCL, fun h'' hs'' => fin D h'' _ ys ys.length (F₃.change hs'' hCL C0) (fun q hq => ?_) o1 hyy⟩
  have z : h₃.get? q.1 = some q.2 := hs₃.extBut _ _ (N' q hq).2.1 (N' q hq).1
  refine ⟨hs''.extBut _ _ ?_ z, (N' q hq).2⟩
  rcases List.mem_cons.mp hq with rfl | hq
  · exact hDC
  · exact offC q hq
end
end Mine
end
section
open PySem PySem.W PyProof.Rows PySem.Calls PySem.SeqAt
set_option maxRecDepth 100000
set_option maxHeartbeats 8000000
theorem Mine.walkResetS55 : True := by w_top off; trivial
namespace Mine
-- the plain law of the last lines
theorem cget_cons (p : Str × Int) (c : Ents) (k : Str) : cget (p :: c) k = if p.1 = k then some p.2 else cget c k := by
  unfold cget ix
  rw [List.findIdx?_cons]
  by_cases h : p.1 = k
  · simp [h]
  · simp only [h, decide_false, Bool.false_eq_true, if_false]
    cases List.findIdx? (fun q => decide (q.1 = k)) c with
    | none => rfl
    | some i => rfl
theorem cput_cons (p : Str × Int) (c : Ents) (u : Str) (v : Int) : cput (p :: c) u v = if p.1 = u then (p.1, v) :: c else p :: cput c u v := by
  unfold cput ix
  rw [List.findIdx?_cons]
  by_cases h : p.1 = u
  · simp [h]
  · simp only [h, decide_false, Bool.false_eq_true, if_false]
    cases List.findIdx? (fun q => decide (q.1 = u)) c with
    | none => rfl
    | some i => rfl
theorem cget_cput (c : Ents) (u k : Str) (v : Int) : cget (cput c u v) k = if k = u then some v else cget c k := by
  induction c with
  | nil =>
    show cget [(u, v)] k = _
    rw [cget_cons]
    by_cases h : k = u
    · subst h; simp
    · rw [if_neg (fun e => h e.symm), if_neg h]
  | cons p c ih =>
    rw [cput_cons]
    by_cases h : p.1 = u
    · rw [if_pos h, cget_cons, cget_cons]
      by_cases h2 : k = u
      · subst h2; simp [h]
      · have : ¬ p.1 = k := fun e => h2 (e.symm.trans h)
        simp [this, h2]
    · rw [if_neg h, cget_cons, cget_cons, ih]
      by_cases h2 : p.1 = k
      · have : ¬ k = u := fun e => h (h2.trans e)
        simp [h2, this]
      · simp [h2]
theorem get3 (r0 r1 r2 k : Str) : cget (mapO [] 0 [r0, r1, r2]) k = if k = r2 then some 2 else if k = r1 then some 1 else if k = r0 then some 0 else none := by
  show cget (cput (cput (cput [] r0 _) r1 _) r2 _) k = _
  rw [cget_cput, cget_cput, cget_cput]
  rfl
theorem inO3 (r0 r1 r2 k : Str) : inO [r0, r1, r2] k = ([r0, r1, r2].any (· == k)) := by
  unfold inO
  rw [get3]
  simp only [List.any_cons, List.any_nil, Bool.or_false]
  by_cases h2 : k = r2
  · rw [if_pos h2, h2]; simp
  · have a2 : (r2 == k) = false := by simp [Ne.symm h2]
    rw [if_neg h2, a2]
    by_cases h1 : k = r1
    · rw [if_pos h1, h1]; simp
    · have a1 : (r1 == k) = false := by simp [Ne.symm h1]
      rw [if_neg h1, a1]
      by_cases h0 : k = r0
      · rw [if_pos h0, h0]; simp
      · have a0 : (r0 == k) = false := by simp [Ne.symm h0]
        rw [if_neg h0, a0]; rfl
/-- two lists in strictly rising order with the same members are the same list -/
theorem rise_eq {f : Str → Int} : ∀ {xs ys : List Str}, xs.Pairwise (fun x y => f x < f y) → ys.Pairwise (fun x y => f x < f y) → (∀ z, z ∈ xs ↔ z ∈ ys) → xs = ys
  | [], [], _, _, _ => rfl
  | [], y :: ys, _, _, h => absurd ((h y).mpr (.head _)) (by simp)
  | x :: xs, [], _, _, h => absurd ((h x).mp (.head _)) (by simp)
  | x :: xs, y :: ys, hx, hy, h => by
    have hx' := List.pairwise_cons.mp hx
    have hy' := List.pairwise_cons.mp hy
    have e : x = y := by
      by_cases e : x = y
      · exact e
      · have m1 : x ∈ ys := by
          rcases List.mem_cons.mp ((h x).mp (.head _)) with q | q
          · exact absurd q e
          · exact q
        have m2 : y ∈ xs := by
          rcases List.mem_cons.mp ((h y).mpr (.head _)) with q | q
          · exact absurd q.symm e
          · exact q
        have := hx'.1 y m2
        have := hy'.1 x m1
        omega
    subst e
    refine congrArg (x :: ·) (rise_eq hx'.2 hy'.2 fun z => ⟨fun hz => ?_, fun hz => ?_⟩)
    · rcases List.mem_cons.mp ((h z).mp (.tail _ hz)) with q | q
      · have := hx'.1 z hz; rw [q] at this; omega
      · exact q
    · rcases List.mem_cons.mp ((h z).mpr (.tail _ hz)) with q | q
      · have := hy'.1 z hz; rw [q] at this; omega
      · exact q
theorem at3 (r0 r1 r2 k : Str) : atO [r0, r1, r2] k = if k = r2 then 2 else if k = r1 then 1 else 0 := by
  unfold atO
  rw [get3]
  by_cases h2 : k = r2
  · rw [if_pos h2, if_pos h2]; rfl
  · rw [if_neg h2, if_neg h2]
    by_cases h1 : k = r1
    · rw [if_pos h1, if_pos h1]; rfl
    · rw [if_neg h1, if_neg h1]
      by_cases h0 : k = r0
      · rw [if_pos h0]; rfl
      · rw [if_neg h0]; rfl
theorem in_cases {r0 r1 r2 x : Str} (hx : inO [r0, r1, r2] x = true) : (x = r2 ∧ atO [r0, r1, r2] x = 2) ∨ (x = r1 ∧ ¬ x = r2 ∧ atO [r0, r1, r2] x = 1) ∨ (x = r0 ∧ ¬ x = r1 ∧ ¬ x = r2 ∧ atO [r0, r1, r2] x = 0) := by
  rw [at3]
  unfold inO at hx
  rw [get3] at hx
  by_cases h2 : x = r2
  · exact .inl ⟨h2, by rw [if_pos h2]⟩
  · rw [if_neg h2] at hx ⊢
    by_cases h1 : x = r1
    · exact .inr (.inl ⟨h1, h2, by rw [if_pos h1]⟩)
    · rw [if_neg h1] at hx ⊢
      by_cases h0 : x = r0
      · exact .inr (.inr ⟨h0, h1, h2, rfl⟩)
      · rw [if_neg h0] at hx; cases hx
theorem at_inj {r0 r1 r2 x y : Str} (hx : inO [r0, r1, r2] x = true) (hy : inO [r0, r1, r2] y = true) (h : atO [r0, r1, r2] x = atO [r0, r1, r2] y) : x = y := by
  rcases in_cases hx with ⟨a, b⟩ | ⟨a, _, b⟩ | ⟨a, _, _, b⟩ <;> rcases in_cases hy with ⟨c, d⟩ | ⟨c, _, d⟩ | ⟨c, _, _, d⟩ <;> rw [b, d] at h <;> first | exact a.trans c.symm | exact absurd h (by decide)
theorem pick3 (c : Ents) (r0 r1 r2 : Str) : pickE (firstP c [r0, r1, r2]) 0 [r0, r1, r2] =
    (if (cget c r0).isSome && !([r1, r2].any (· == r0)) then [r0] else []) ++ ((if (cget c r1).isSome && !([r2].any (· == r1)) then [r1] else []) ++ (if (cget c r2).isSome then [r2] else [])) := by
  unfold pickE pickE pickE pickE firstP
  simp only [List.drop_succ_cons, List.drop_zero, List.drop_nil, List.any_nil, Bool.not_false, Bool.and_true]
  split <;> split <;> split <;> rfl
theorem pick_mem {c : Ents} {r0 r1 r2 z : Str} : z ∈ pickE (firstP c [r0, r1, r2]) 0 [r0, r1, r2] ↔ ((cget c z).isSome = true ∧ inO [r0, r1, r2] z = true) := by
  rw [pick3, inO3]
  simp only [List.mem_append]
  constructor
  · rintro (h | h | h)
    · split at h
      · rename_i q
        obtain rfl := List.mem_singleton.mp h
        simp only [Bool.and_eq_true] at q
        exact ⟨q.1, by simp⟩
      · cases h
    · split at h
      · rename_i q
        obtain rfl := List.mem_singleton.mp h
        simp only [Bool.and_eq_true] at q
        exact ⟨q.1, by simp⟩
      · cases h
    · split at h
      · rename_i q
        obtain rfl := List.mem_singleton.mp h
        exact ⟨q, by simp⟩
      · cases h
  · rintro ⟨h1, h2⟩
    simp only [List.any_cons, List.any_nil, Bool.or_false, Bool.or_eq_true, beq_iff_eq] at h2
    by_cases e2 : z = r2
    · subst e2
      exact .inr (.inr (by rw [if_pos h1]; exact .head _))
    · by_cases e1 : z = r1
      · subst e1
        refine .inr (.inl ?_)
        rw [if_pos]
        · exact .head _
        · rw [h1]; simp [Ne.symm e2]
      · have e0 : r0 = z := by
          rcases h2 with h | h | h
          · exact h
          · exact absurd h.symm e1
          · exact absurd h.symm e2
        subst e0
        refine .inl ?_
        rw [if_pos]
        · exact .head _
        · rw [h1]; simp [Ne.symm e1, Ne.symm e2]
theorem pick_rise (c : Ents) (r0 r1 r2 : Str) : (pickE (firstP c [r0, r1, r2]) 0 [r0, r1, r2]).Pairwise (fun x y => atO [r0, r1, r2] x < atO [r0, r1, r2] y) := by
  rw [pick3]
  have a2 : ∀ x ∈ (if (cget c r2).isSome then [r2] else []), atO [r0, r1, r2] x = 2 := by
    intro x hx
    split at hx
    · rw [List.mem_singleton.mp hx, at3, if_pos rfl]
    · cases hx
  have a1 : ∀ x ∈ (if (cget c r1).isSome && !([r2].any (· == r1)) then [r1] else []), atO [r0, r1, r2] x = 1 := by
    intro x hx
    split at hx
    · rename_i q
      simp only [Bool.and_eq_true, List.any_cons, List.any_nil, Bool.or_false, Bool.not_eq_true', beq_eq_false_iff_ne] at q
      rw [List.mem_singleton.mp hx, at3, if_neg (fun e => q.2 e.symm), if_pos rfl]
    · cases hx
  have a0 : ∀ x ∈ (if (cget c r0).isSome && !([r1, r2].any (· == r0)) then [r0] else []), atO [r0, r1, r2] x = 0 := by
    intro x hx
    split at hx
    · rename_i q
      simp only [Bool.and_eq_true, List.any_cons, List.any_nil, Bool.or_false, Bool.not_eq_true', Bool.or_eq_false_iff, beq_eq_false_iff_ne] at q
      rw [List.mem_singleton.mp hx, at3, if_neg (fun e => q.2.2 e.symm), if_neg (fun e => q.2.1 e.symm)]
    · cases hx
  have s0 : ∀ (b : Bool) (r : Str), (if b = true then [r] else []).Pairwise (fun x y => atO [r0, r1, r2] x < atO [r0, r1, r2] y) := by
    intro b r; cases b <;> simp
  refine List.pairwise_append.mpr ⟨s0 _ _, List.pairwise_append.mpr ⟨s0 _ _, s0 _ _, fun x hx y hy => ?_⟩, fun x hx y hy => ?_⟩
  · rw [a1 x hx, a2 y hy]; decide
  · rw [a0 x hx]
    rcases List.mem_append.mp hy with hy | hy
    · rw [a1 y hy]; decide
    · rw [a2 y hy]; decide
theorem cget_some_mem {c : Ents} {x : Str} (h : (cget c x).isSome = true) : x ∈ c.map (·.1) := by
  obtain ⟨v, hv⟩ := Option.isSome_iff_exists.mp h
  obtain ⟨i, hi⟩ := ix_of_cget hv
  obtain ⟨v', e, _⟩ := ix_lt hi
  exact List.mem_map.mpr ⟨(x, v'), List.mem_of_getElem? e, rfl⟩
theorem can_final {c : Ents} {r0 r1 r2 : Str} {out : List Str} (hn : (c.map (·.1)).Nodup) (h : CanOut [r0, r1, r2] (c.map (·.1)) out) :
    out = pickE (firstP c [r0, r1, r2]) 0 [r0, r1, r2] ++ sortS ((c.map (·.1)).filter fun k => !([r0, r1, r2].any (· == k))) := by
  obtain ⟨ys, hp, hs, rfl⟩ := h
  have e2 : ((c.map (·.1)).filter fun k => !inO [r0, r1, r2] k) = (c.map (·.1)).filter fun k => !([r0, r1, r2].any (· == k)) := by
    refine List.filter_congr fun k _ => by rw [inO3]
  rw [e2]
  refine congrArg (· ++ _) ?_
  have hin : ∀ z ∈ ys, inO [r0, r1, r2] z = true := fun z hz => (List.mem_filter.mp (hp.mem_iff.mp hz)).2
  have hyn : ys.Nodup := hp.nodup_iff.mpr (hn.filter _)
  refine rise_eq (f := atO [r0, r1, r2]) ?_ (pick_rise c r0 r1 r2) fun z => ?_
  · refine (hs.and hyn).imp_of_mem fun {x y} hx hy hxy => ?_
    have : atO [r0, r1, r2] x ≠ atO [r0, r1, r2] y := fun e => hxy.2 (at_inj (hin x hx) (hin y hy) e)
    have := hxy.1
    omega
  · rw [hp.mem_iff, List.mem_filter, pick_mem]
    refine and_congr_left fun _ => ⟨fun hz => ?_, cget_some_mem⟩
    obtain ⟨v, hv⟩ := cget_mem hz
    rw [hv]; rfl
theorem cget_at {c : Ents} (hn : (c.map (·.1)).Nodup) {i : Nat} (hi : i < c.length) : cget c (c[i]).1 = some (c[i]).2 := by
  induction c generalizing i with
  | nil => simp at hi
  | cons p c ih =>
    rw [cget_cons]
    have hn' := List.nodup_cons.mp hn
    cases i with
    | zero => simp
    | succ i =>
      have hi' : i < c.length := by simpa using hi
      have : ¬ p.1 = (c[i]).1 := fun e => hn'.1 (by show p.1 ∈ _; rw [e]; exact List.mem_map.mpr ⟨c[i], List.getElem_mem hi', rfl⟩)
      simp only [List.getElem_cons_succ]
      rw [if_neg this]
      exact ih hn'.2 hi'
theorem vals_sort {c : Ents} (hn : (c.map (·.1)).Nodup) (h5 : c.length ≤ 5) : valsO c (sortS (c.map (·.1))) = sortR c := by
  unfold valsO sortS sortR
  rw [List.map_map]
  refine List.map_congr_left fun i hi => ?_
  have hi' : i < c.length := by have := permS_lt (xs := c.map (·.1)) (by rw [List.length_map]; exact h5) i hi; rwa [List.length_map] at this
  have hg : c.getD i (noStr, 0) = c[i] := by rw [List.getD_eq_getElem?_getD, List.getElem?_eq_getElem hi']; rfl
  show ((c.map (·.1)).getD i noStr, (cget c ((c.map (·.1)).getD i noStr)).getD 0) = c.getD i (noStr, 0)
  rw [keys_getD, hg, cget_at hn hi']
  rfl
end Mine
end
section
open PySem PySem.W PyProof.Rows PySem.Calls PySem.SeqAt
set_option maxRecDepth 100000
set_option maxHeartbeats 8000000
theorem Mine.walkResetS56 : True := by w_top off; trivial
namespace Mine
section
variable {w : World} {A : Around} {E : Value → Shared → Prop} {s : Shared} {h₀ : Heap} {L : Addr} {m : Str → Option Value} {news : List (Addr × Obj)} {Q : Value → Shared → Prop}
theorem strs_at {vs ws : List Value} {xs : List Str} {A : Around} {s : Shared} (h1 : StrsAre vs xs) (h2 : StrsAre ws xs) (j : Nat) (q1 : j < vs.toArray.size) (q2 : j < ws.toArray.size) : EqAt A s vs.toArray[j] ws.toArray[j] true := by
  have jx : j < xs.length := by rw [← StrsAre.length h1]; simpa using q1
  obtain ⟨t, e1⟩ := h1.get j xs[j] (List.getElem?_eq_getElem jx)
  obtain ⟨u, e2⟩ := h2.get j xs[j] (List.getElem?_eq_getElem jx)
  have g1 : vs.toArray[j] = .str xs[j] t := by
    have : vs[j]? = some (vs[j]'(by simpa using q1)) := List.getElem?_eq_getElem _
    rw [e1] at this
    simpa using (Option.some.inj this).symm
  have g2 : ws.toArray[j] = .str xs[j] u := by
    have : ws[j]? = some (ws[j]'(by simpa using q2)) := List.getElem?_eq_getElem _
    rw [e2] at this
    simpa using (Option.some.inj this).symm
  rw [g1, g2]
  have := EqAt.str_str (A := A) (s := s) xs[j] t xs[j] u
  rwa [beq_self_eq_true] at this
theorem ln_strs_ne {l1 l2 : Addr} {vs ws : List Value} {k1 k2 : Nat} {xs : List Str} (N : News h₀ L s.heap news) (m1 : (l1, listOf (List.toArray vs) k1) ∈ news) (m2 : (l2, listOf (List.toArray ws) k2) ∈ news) (h1 : StrsAre vs xs) (h2 : StrsAre ws xs)
    (hu : A.units < cLine) (h : Q (.bool false) s) : wpAny (model PP w) A (compareOp .NotEq (.ref l1) (.ref l2)) Q E s := by
  have z : vs.toArray.size = ws.toArray.size := by simp [StrsAre.length h1, StrsAre.length h2]
  have := RcNeAt.lists (A := A) (s := s) (e := fun _ => true) (News.isList N m1) (News.isList N m2) z hu (fun j q1 q2 => strs_at h1 h2 j q1 q2)
  refine cmp_ofNotEq (this _ _ _ _ ?_)
  rw [show (List.range vs.toArray.size).all (fun _ => true) = true by simp]
  exact h
theorem ln_strs_eq {l1 l2 : Addr} {vs ws : List Value} {k1 k2 : Nat} {xs : List Str} (N : News h₀ L s.heap news) (m1 : (l1, listOf (List.toArray vs) k1) ∈ news) (m2 : (l2, listOf (List.toArray ws) k2) ∈ news) (h1 : StrsAre vs xs) (h2 : StrsAre ws xs)
    (hu : A.units < cLine) (h : Q (.bool true) s) : wpAny (model PP w) A (compareOp .Eq (.ref l1) (.ref l2)) Q E s := by
  have z : vs.toArray.size = ws.toArray.size := by simp [StrsAre.length h1, StrsAre.length h2]
  have := RcAt.lists (A := A) (s := s) (e := fun _ => true) (News.isList N m1) (News.isList N m2) z hu (fun j q1 q2 => strs_at h1 h2 j q1 q2)
  refine cmp_ofEq (this _ _ _ _ ?_)
  rw [show (List.range vs.toArray.size).all (fun _ => true) = true by simp]
  exact h
end
theorem led_cut {h₀ h : Heap} {L : Addr} {a v b q0 x1 x2 x3 : Addr × Obj} {sg seg led : List (Addr × Obj)} (N : News h₀ L h (a :: (sg ++ v :: b :: (seg ++ q0 :: x1 :: x2 :: x3 :: led)))) : News h₀ L h (q0 :: led) := by
  refine news_sub N fun p hp => .tail _ (List.mem_append_right _ (.tail _ (.tail _ (List.mem_append_right _ ?_))))
  rcases List.mem_cons.mp hp with rfl | hp
  · exact .head _
  · exact .tail _ (.tail _ (.tail _ (.tail _ hp)))
theorem rows_sorted {c : Ents} {xs : List Str} {as : List Addr} {seg : List (Addr × Obj)} (hG : GoodC c) (h : CanOut [] (c.map (·.1)) xs) (r : Rows (valsO c xs) as seg) : Rows (sortR c) as seg := by
  rw [can_nil h, vals_sort hG.1 hG.len] at r
  exact r
theorem strs_sorted {c : Ents} {xs : List Str} {vs : List Value} (h : CanOut [] (c.map (·.1)) xs) (r : StrsAre vs xs) : StrsAre vs (sortS (c.map (·.1))) := by
  rw [can_nil h] at r; exact r
theorem strs_final {c : Ents} {r0 r1 r2 : Str} {xs : List Str} {vs : List Value} (hG : GoodC c) (h : CanOut [r0, r1, r2] (c.map (·.1)) xs) (r : StrsAre vs xs) :
    StrsAre vs (pickE (firstP c [r0, r1, r2]) 0 [r0, r1, r2] ++ sortS ((c.map (·.1)).filter fun k => !([r0, r1, r2].any (· == k)))) := by
  rw [can_final hG.1 h] at r; exact r
theorem pick_len (c : Ents) (r0 r1 r2 : Str) : (pickE (firstP c [r0, r1, r2]) 0 [r0, r1, r2]).length ≤ 3 := by
  rw [pick3]
  simp only [List.length_append]
  split <;> split <;> split <;> simp
theorem fin_fit {c : Ents} {r0 r1 r2 : Str} {q : Str → Bool} (h5 : c.length ≤ 5) : (pickE (firstP c [r0, r1, r2]) 0 [r0, r1, r2]).length + (sortS ((c.map (·.1)).filter q)).length ≤ 1000 := by
  have h1 := pick_len c r0 r1 r2
  have h2 := filter_len (p := q) h5
  rw [sortS_len h2]; omega
end Mine
end
section
open PySem PySem.W PyProof.Rows PySem.Calls
set_option maxRecDepth 100000
set_option maxHeartbeats 8000000
theorem Mine.walkResetTL : True := by w_top off; trivial
namespace Mine
theorem ln_newDict {w : World} {A : Around} {E : Value → Shared → Prop} {s : Shared} {env : Env} {h₀ : Heap} {L : Addr} {m : Str → Option Value} {news : List (Addr × Obj)} {pos : Pos} {Q : Value → Shared → Prop} (F : Fr h₀ L s.heap m) (N : News h₀ L s.heap news) (hb : h₀.NoLimit)
    (h : ∀ D h', Fr h₀ L h' m → News h₀ L h' ((D, dictOf [] 0) :: news) → (∀ p ∈ news, p.1 < D) → (D == sysModules) = false → Q (.ref D) { s with heap := h' }) : wpAny (model PP w) A (eval (.Dict [] [] pos) env) Q E s :=
  wpAny_Dict_empty (h _ _ (F.push _) (News.push F N _) (fun p hp => Heap.lt_size (N p hp).1) (F.notModules (modules_low hb)))
def Arm : Prop := True
local macro_rules | `(tactic| k_in) => `(tactic| first | with_reducible assumption | with_reducible exact Frag.In.keeps (by assumption) (Fr.keep (by assumption)))
local macro_rules | `(tactic| walk_at "callWith ref") => `(tactic| (k_here; k_dflt (first
  | (refine' callWith_K ?k1 ?k2 ?_; (case k1 => k_asm); (case k2 => k_is); k_whole)
  | (refine' callWith_K0 ?k1 ?k2 ?_; (case k1 => k_in); (case k2 => k_is); k_whole))))
local macro_rules | `(tactic| walk_at "callWith") => `(tactic| (k_here; (with_reducible show wpAny _ _ (callWith _ (Value.builtin _) (_ :: _) (backTo _ (starEach (_ :: _) _)) []) _ _ _); k_dflt (refine PyProof.Rows.callWith_method1 ?_)))
local macro_rules | `(tactic| walk_at "eval Name") => `(tactic| (k_here; (fail_if_success (with_reducible show wpAny _ _ (eval (Expr.Name _ _) (compEnvC _ _ _ _)) _ _ _)); k_dflt (first
  | (refine' nameX_L ?F ?v ?_ ?a ?b; (case F => k_asm); (case a => rfl); (case b => rfl); (case v => rfl); k_whole)
  | (refine' nameX_C ?N ?c ?m ?d ?_ ?a ?b; (case a => rfl); (case b => rfl); (case N => k_asm); (case c => rfl); (case m => k_mem); (case d => k_asm); k_whole)
  | (refine' nameX_K ?F ?X ?T ?e ?_ ?a ?b; (case F => k_asm); (case X => k_asm); (case T => k_asm); (case a => rfl); (case b => rfl); (case e => k_is); k_whole)
  | (refine' nameX_B ?F ?X ?T ?e ?v ?n ?_ ?a ?b; (case F => k_asm); (case X => k_asm); (case T => k_asm); (case a => rfl); (case b => rfl); (case e => k_is); (case v => boot_fast); (case n => decide); k_whole))))
local macro_rules | `(tactic| k_room) => `(tactic| ((try simp only [depth_mark, depth_under_make, depth_under_kw, depth_in1, depth_deeper, depth_caller]); (try simp only [Around.deeper]); omega))
local macro_rules | `(tactic| k_ne) => `(tactic| (refine neN ?_; (try dsimp only); first
  | omega
  | exact ne_cls (by k_asm) (by k_mem) (by k_mem) rfl rfl (by decide)
  | exact ne_clsR (by k_asm) (by k_mem) (by k_mem) rfl rfl
  | exact (ne_clsR (by k_asm) (by k_mem) (by k_mem) rfl rfl).symm
  | exact ne_cls (by k_asm) (by k_mem) (by k_mem) (rr_cls (by assumption)) rfl (by decide)
  | exact ne_clsR (by k_asm) (by k_mem) (by k_mem) (rr_cls (by assumption)) rfl))
local macro_rules | `(tactic| k_ne) => `(tactic| (refine neN ?_; (try dsimp only); first | with_reducible assumption | with_reducible exact Ne.symm (by assumption) | with_reducible exact Nat.ne_of_lt (by assumption) | with_reducible exact Nat.ne_of_gt (by assumption)))
local macro_rules | `(tactic| walk_at "my_units") => `(tactic| ((try simp only [units_in1, PySem.Around.deeper_units, Around.mark_units, units_caller]); (try simp only [Around.deeper]); first | (exact Nat.le_of_ble_eq_true rfl) | omega))
local macro_rules | `(tactic| walk_at "my_len") => `(tactic| first | assumption | exact Nat.le_trans (List.length_take_le _ _) (by decide) | (simp only [List.length_take]; omega) | omega)
local macro_rules | `(tactic| walk_at "my_sub") => `(tactic| (intro p hp; repeat (first | exact hp | refine List.Mem.tail _ ?_)))
local macro_rules | `(tactic| walk_at "call ref") => `(tactic| (k_here; k_dflt (first
  | (refine' g_new ?hA0 ?hA ?hcr ?hcu ?B ?F ?X ?N ?T ?hf ?hk ?_; (case hA0 => exact rfl); (case hA => exact rfl); (case hcr => k_room); (case hcu => walk_at "my_units"); (case B => k_asm); (case F => k_asm); (case X => k_asm); (case N => k_asm); (case T => k_asm); (case hf => exact rfl); (case hk => exact rfl); (intro h' tk' x' dx' F' N' xs' l1 ds' l2; (replace l1 := ltN l1); (try k_lt l2)))
  | (refine' u_next ?hA0 ?hA ?hcr ?hcu ?B ?F ?X ?N ?U ?hs ?hne ?T ?hf ?hk ?hI ?hlen ?h0 ?h1 ?hm ?hm2 ?_; (case hA0 => exact rfl); (case hA => exact rfl); (case hcr => k_room); (case hcu => walk_at "my_units"); (case B => k_asm); (case F => k_asm); (case X => k_asm); (case N => k_asm); (case U => k_updF); (case hs => k_mem); (case hne => k_ne); (case T => k_asm); (case hf => exact rfl); (case hk => exact rfl); (case hI => assumption); (case hlen => walk_at "my_len"); (case h0 => walk_at "my_len"); (case h1 => walk_at "my_len"); (case hm => decide); (case hm2 => decide); (intro h' tk' i' t' ti' tt' e1' r' tr' F' N' b0 b1 b2 b3; try dsimp only at N'))
  | (refine' g_keys ?hA0 ?hA ?hcr ?hcu ?B ?F ?X ?N ?T ?hf ?hk ?_; (case hA0 => exact rfl); (case hA => exact rfl); (case hcr => k_room); (case hcu => walk_at "my_units"); (case B => k_asm); (case F => k_asm); (case X => k_asm); (case N => k_asm); (case T => k_asm); (case hf => exact rfl); (case hk => exact rfl); (intro h' tk' l' its' hk' F' N' l1; (try k_lt l1)))
  | (refine' u_done ?hA0 ?hA ?hcr ?hcu ?B ?F ?X ?N ?U ?hm ?T ?hf ?hk ?hdx ?hE ?hxs ?hup ?hul ?hsz ?hKE ?_ ?_ ?_; (case hA0 => exact rfl); (case hA => exact rfl); (case hcr => k_room); (case hcu => walk_at "my_units"); (case B => k_asm); (case F => k_asm); (case X => k_asm); (case N => k_asm); (case U => k_updF); (case hm => k_mem); (case T => k_asm); (case hf => exact rfl); (case hk => exact rfl); (case hdx => k_ne); (case hE => assumption); (case hxs => assumption); (case hup => assumption); (case hul => assumption); (case hsz => assumption); (case hKE => assumption); (intro h' tk' es' n' c' T' val' r' q0' q1' q2' F' N'; try dsimp only at N'); rotate_left; (intro h' tk' es' n' c' T' a' o' r' q0' q1' q2' F' N'; try dsimp only at N'); rotate_left; (intro h' tk' T' q0' F' N'; try dsimp only at N'); rotate_left)
  | (refine' u_doneD_F ?hA0 ?hA ?hcr ?hcu ?B ?F ?X ?N ?U ?T ?hf ?hk ?hE ?hxs ?hsz ?hKE ?hq ?hv1 ?_; (case hA0 => exact rfl); (case hA => exact rfl); (case hcr => k_room); (case hcu => walk_at "my_units"); (case B => k_asm); (case F => k_asm); (case X => k_asm); (case N => k_asm); (case U => k_updF); (case T => k_asm); (case hf => exact rfl); (case hk => exact rfl); (case hE => assumption); (case hxs => assumption); (case hsz => assumption); (case hKE => assumption); (case hq => assumption); (case hv1 => assumption); (intro h' tk' es' n' T' val' q1' q2' F' N'; try dsimp only at N'))
  | (refine' u_doneD_R ?hA0 ?hA ?hcr ?hcu ?B ?F ?X ?N ?U ?T ?hf ?hk ?hE ?hxs ?hsz ?hKE ?hq ?hv1 ?_; (case hA0 => exact rfl); (case hA => exact rfl); (case hcr => k_room); (case hcu => walk_at "my_units"); (case B => k_asm); (case F => k_asm); (case X => k_asm); (case N => k_asm); (case U => k_updF); (case T => k_asm); (case hf => exact rfl); (case hk => exact rfl); (case hE => assumption); (case hxs => assumption); (case hsz => assumption); (case hKE => assumption); (case hq => assumption); (case hv1 => assumption); (intro h' tk' es' n' T' a' o' q1' q2' F' N'; try dsimp only at N'))
  | (refine' u_doneD_X ?hA0 ?hA ?hcr ?hcu ?B ?F ?X ?N ?U ?T ?hf ?hk ?hE ?hxs ?hsz ?hKE ?hq ?_; (case hA0 => exact rfl); (case hA => exact rfl); (case hcr => k_room); (case hcu => walk_at "my_units"); (case B => k_asm); (case F => k_asm); (case X => k_asm); (case N => k_asm); (case U => k_updF); (case T => k_asm); (case hf => exact rfl); (case hk => exact rfl); (case hE => assumption); (case hxs => assumption); (case hsz => assumption); (case hKE => assumption); (case hq => assumption); (intro h' tk' T' F' N'; try dsimp only at N'))
  | (refine' g_has_key ?hA0 ?hA ?hcr ?hcu ?B ?F ?X ?N ?U ?hm ?T ?hf ?hk ?hdx ?hE ?hxs ?hup ?hul ?_; (case hA0 => exact rfl); (case hA => exact rfl); (case hcr => k_room); (case hcu => walk_at "my_units"); (case B => k_asm); (case F => k_asm); (case X => k_asm); (case N => k_asm); (case U => k_updF); (case hm => k_mem); (case T => k_asm); (case hf => exact rfl); (case hk => exact rfl); (case hdx => k_ne); (case hE => assumption); (case hxs => assumption); (case hup => assumption); (case hul => assumption); (intro h' tk' F' N'))
  | (refine' g_ne ?hA0 ?hA ?hcr ?hcu ?B ?F ?X ?N ?T ?hf ?hk ?ht ?hdx ?ho ?hE ?hE2 ?hn ?hn2 ?hz ?hz2 ?hxs ?hos ?hne ?hD ?_; (case hA0 => exact rfl); (case hA => exact rfl); (case hcr => k_room); (case hcu => walk_at "my_units"); (case B => k_asm); (case F => k_asm); (case X => k_asm); (case N => k_asm); (case T => k_asm); (case hf => exact rfl); (case hk => exact rfl); (case ht => k_mem); (case hdx => k_mem); (case ho => k_mem); (case hE => assumption); (case hE2 => assumption); (case hn => exact And.left (by assumption)); (case hn2 => first | assumption | exact more_nodup (by assumption)); (case hz => assumption); (case hz2 => first | assumption | exact more_len (by assumption)); (case hxs => assumption); (case hos => assumption); (case hne => k_ne); (case hD => first | assumption | exact deq_more _ _); (intro h' tk' F' N'))
  | (refine' g_eq ?hA0 ?hA ?hcr ?hcu ?B ?F ?X ?N ?T ?hf ?hk ?ht ?hdx ?ho ?hE ?hE2 ?hn ?hn2 ?hz ?hz2 ?hxs ?hos ?hne ?hD ?_; (case hA0 => exact rfl); (case hA => exact rfl); (case hcr => k_room); (case hcu => walk_at "my_units"); (case B => k_asm); (case F => k_asm); (case X => k_asm); (case N => k_asm); (case T => k_asm); (case hf => exact rfl); (case hk => exact rfl); (case ht => k_mem); (case hdx => k_mem); (case ho => k_mem); (case hE => assumption); (case hE2 => assumption); (case hn => exact And.left (by assumption)); (case hn2 => first | assumption | exact more_nodup (by assumption)); (case hz => assumption); (case hz2 => first | assumption | exact more_len (by assumption)); (case hxs => assumption); (case hos => assumption); (case hne => k_ne); (case hD => first | assumption | exact deq_more _ _); (intro h' tk' F' N'))
  | refine stop_in ?_)))
local macro_rules | `(tactic| walk_at "eval Dict nil nil") => `(tactic| (k_here; k_dflt (refine' ln_newDict ?F ?N ?b ?_; (case F => k_asm); (case N => k_asm); (case b => exact Top.nolimit (by k_asm))); intro d' h' F' N' l1 ds'; (try k_lt l1)))
local macro_rules | `(tactic| walk_at "subscriptTail") => `(tactic| (k_here; (with_reducible show wpAny _ _ (subscriptTail _ _ (Value.ref _) (Value.int _ _)) _ _ _); k_dflt (refine' ln_pick2 ?N ?p ?k ?a0 ?a1 ?_ ?ss; (case N => k_asm); (case p => k_mem); (case k => assumption); (case a0 => assumption); (case a1 => assumption); (case ss => with_unfolding_all rfl)); intro x' t' ux' hup' h5' hul'))
local macro_rules | `(tactic| walk_at "call builtin:str.upper") => `(tactic| (k_here; (show wpAny _ _ (call (Value.builtin "str.upper") [Value.str _ _]) _ _ _); (refine KXw.upper (by assumption) (by assumption) ?_); intro t' k'))
local macro_rules | `(tactic| walk_at "compareOp NotEq ref ref") => `(tactic| (k_here; (with_reducible show wpAny _ _ (compareOp CmpOp.NotEq (Value.ref _) (Value.ref _)) _ _ _); k_dflt (first
  | (refine' ln_neF ?N ?a1 ?a2 ?a3 ?a4 ?hu ?_; (case N => k_asm); (case a1 => k_mem); (case a2 => k_mem); (case a3 => assumption); (case a4 => assumption); (case hu => walk_at "my_units"))
  | (refine' ln_neR2 ?N ?a1 ?a2 ?b1 ?b2 ?a3 ?a4 ?hu ?_; (case N => k_asm); (case a1 => k_mem); (case a2 => k_mem); (case b1 => k_mem); (case b2 => k_mem); (case a3 => assumption); (case a4 => assumption); (case hu => walk_at "my_units"))
  | (refine' ln_neF (r := .none) ?N ?a1 ?a2 rfl rfl ?hu ?_; (case N => k_asm); (case a1 => k_mem); (case a2 => k_mem); (case hu => walk_at "my_units")))))
local macro_rules | `(tactic| walk_at "getMethod ref") => `(tactic| (k_here; (with_reducible show wpAny _ _ (getMethod (Value.ref _) (Str.ofString "items") _) _ _ _); k_dflt (first
  | refine kd_method PySem.F.slot_dict_items PySem.F.type_dict_items (by k_asm) (by k_mem) ?_
  | (refine' method_told (T := "method_descriptor") ?F ?X ?N ?x ?d ?f ?t ?y ?_; (case F => k_asm); (case X => k_asm); (case N => k_asm); (case x => k_mem); (case d => k_mem); (case f => exact it_find _); (case t => exact Looks.of_pure ty_items); (case y => decide)))))
local macro_rules | `(tactic| walk_at "call builtin:dict.items") => `(tactic| (k_here; (with_reducible show wpAny _ _ (call (Value.builtin "dict.items") [Value.ref _]) _ _ _); k_dflt (first
  | (refine' kd_items ?F ?N ?p ?s ?_; (case F => k_asm); (case N => k_asm); (case p => k_mem); (case s => assumption))
  | (refine' kt_items ?F ?X ?N ?p ?s ?_; (case F => k_asm); (case X => k_asm); (case N => k_asm); (case p => k_mem); (case s => assumption))); intro D' h' F' N' l1; (try k_lt l1)))
local macro_rules | `(tactic| walk_at "call type:dict") => `(tactic| (k_here; (with_reducible show wpAny _ _ (call (Value.type "dict") [Value.ref _]) _ _ _); k_dflt (first
  | (refine' ln_dictV ?hh ?F ?X ?N ?b ?v ?p (.inl ⟨_, rfl⟩) ?E ?n ?z ?_; (case hh => exact rfl); (case F => k_asm); (case X => k_asm); (case N => k_asm); (case b => exact Top.nolimit (by k_asm)); (case v => k_mem); (case p => k_mem); (case E => assumption); (case n => assumption); (case z => assumption))
  | (refine' ln_dictV ?hh ?F ?X ?N ?b ?v ?p (.inr rfl) ?E ?n ?z ?_; (case hh => exact rfl); (case F => k_asm); (case X => k_asm); (case N => k_asm); (case b => exact Top.nolimit (by k_asm)); (case v => k_mem); (case p => k_mem); (case E => assumption); (case n => assumption); (case z => assumption))); intro D' h' tk' es' n' F' N' l1 hs' hE'; (replace l1 := allNe_of l1; simp only [AllNe, and_true] at l1)))

local macro_rules | `(tactic| walk_at "getMethod ref") => `(tactic| (k_here; (with_reducible show wpAny _ _ (getMethod (Value.ref _) (Str.ofString "has_key") _) _ _ _); k_dflt
  (refine' method_told (T := "function") ?F ?X ?N ?x ?d ?f ?t ?y ?_; (case F => k_asm); (case X => k_asm); (case N => k_asm); (case x => k_mem); (case d => k_mem); (case f => exact find_has_key _); (case t => exact looks_typeIn (Frag.In.keeps (by k_asm) (Fr.keep (by k_asm))) (type_has_key _)); (case y => decide))))
local macro_rules | `(tactic| walk_at "compareOp In str ref") => `(tactic| (k_here; k_dflt (refine' kd_in ?N ?p ?E ?s ?_; (case N => k_asm); (case p => k_mem); (case E => assumption); (case s => assumption))))
local macro_rules | `(tactic| walk_at "compareOp NotEq bool bool") => `(tactic| (refine ne_same ?_))
local macro_rules | `(tactic| walk_at "call type:list") => `(tactic| (k_here; (with_reducible show wpAny _ _ (call (Value.type "list") [Value.ref _]) _ _ _); k_dflt (first
  | (refine' ln_listT ?hh ?F ?X ?N ?v ?p ?E ?z ?_; (case hh => exact rfl); (case F => k_asm); (case X => k_asm); (case N => k_asm); (case v => k_mem); (case p => k_mem); (case E => assumption); (case z => exact GoodC.len (by assumption)))
  | (refine' ln_listD ?hh ?F ?N ?v ?p ?E ?n ?z ?_; (case hh => exact rfl); (case F => k_asm); (case N => k_asm); (case v => k_mem); (case p => k_mem); (case E => assumption); (case n => exact And.left (by assumption)); (case z => exact GoodC.len (by assumption)))); intro l' h' tk' as' ep' sg' F' N' rw' l1; (replace l1 := allNe_of l1; simp only [AllNe, and_true] at l1)))
local macro_rules | `(tactic| walk_at "my_app") => `(tactic| (intro p hp; repeat (first | exact List.mem_append_left _ hp | refine List.Mem.tail _ ?_ | refine List.mem_append_right _ ?_)))
local macro_rules | `(tactic| walk_at "my_sub2") => `(tactic| (intro p hp; repeat (first | exact hp | refine List.Mem.tail _ ?_ | refine List.mem_append_right _ ?_)))
local macro_rules | `(tactic| k_mem) => `(tactic| (refine List.mem_append_right _ ?_; k_mem))
local macro_rules | `(tactic| walk_at "compareOp NotEq ref ref") => `(tactic| (k_here; (with_reducible show wpAny _ _ (compareOp CmpOp.NotEq (Value.ref _) (Value.ref _)) _ _ _); k_dflt (first
  | (refine' ln_rows_ne ?N ?m1 ?m2 ?r1 ?r2 ?s1 ?s2 ?hu ?_; (case N => k_asm); (case m1 => k_mem); (case m2 => k_mem); (case r1 => assumption); (case r2 => assumption); (case s1 => walk_at "my_app"); (case s2 => walk_at "my_app"); (case hu => walk_at "my_units"))
  | (refine' cmp_ne ?hu ?F ?X ?N ?a1 ?a2 ?a3 ?_; (case hu => walk_at "my_units"); (case F => k_asm); (case X => k_asm); (case N => k_asm); (case a1 => k_mem); (case a2 => k_mem); (case a3 => k_mem)))))
local macro_rules | `(tactic| walk_at "compareOp Eq ref ref") => `(tactic| (k_here; (with_reducible show wpAny _ _ (compareOp CmpOp.Eq (Value.ref _) (Value.ref _)) _ _ _); k_dflt
  (refine' cmp_eq ?hu ?F ?X ?N ?a1 ?a2 ?a3 ?_; (case hu => walk_at "my_units"); (case F => k_asm); (case X => k_asm); (case N => k_asm); (case a1 => k_mem); (case a2 => k_mem); (case a3 => k_mem))))
local macro_rules | `(tactic| walk_at "CmpBack") => `(tactic| (dsimp only [PySem.W.CmpBack]))
local macro_rules | `(tactic| walk_at "eval Dict") => `(tactic| (k_here; k_dflt (refine' dict_moreK ?F ?N ?b ?_; (case F => k_asm); (case N => k_asm); (case b => exact Top.nolimit (by k_asm))); intro D' h' F' N' of' ds'))
local macro_rules | `(tactic| walk_at "More1") => `(tactic| (k_here; k_dflt (refine' more1_intro ?F ?N ?b ?ma ?off ?hs ?hE ?hn ?hz ?_; (case F => k_asm); (case N => k_asm); (case b => exact Top.nolimit (by k_asm)); (case ma => k_mem); (case off => assumption); (case hs => assumption); (case hE => assumption); (case hn => exact And.left (by assumption)); (case hz => assumption)); intro D' h' es' n' F' N' of' ne' ds' E'))
local macro_rules | `(tactic| walk_at "More2") => `(tactic| (k_here; k_dflt (refine' more2_intro ?F ?N ?hne ?hs ?h1 ?h2 ?hE ?hu ?hn ?hz ?_; (case F => k_asm); (case N => k_asm); (case hne => assumption); (case hs => assumption); (case h1 => assumption); (case h2 => assumption); (case hE => assumption); (case hu => exact more_free (by assumption)); (case hn => exact And.left (by assumption)); (case hz => exact Nat.le_trans (GoodC.len (by assumption)) (by decide))); intro h' tk' es' n' F' N' E'))
local macro_rules | `(tactic| walk_at "InvEndN") => `(tactic| exact inv_end (by assumption) (by assumption) (by assumption) (by assumption) (by assumption) (by assumption) (by assumption) rfl)
local macro_rules | `(tactic| walk_at "Cut2") => `(tactic| exact cut2_intro (by assumption) (news_sub (by assumption) (by walk_at "my_sub2")))
local macro_rules | `(tactic| walk_at "Cut1") => `(tactic| (plain_pass; exact cut1_intro (by assumption) (news_sub (by assumption) (by walk_at "my_sub")) (by assumption) (by assumption) (by assumption) (by assumption) (by assumption)))
local macro_rules | `(tactic| walk_at "exec For Name Call cons nil") => `(tactic| ((rename Arm => lA); (clear lA); (refine stop_in ?_)))
local macro_rules | `(tactic| walk_at "pyIter ref") => `(tactic| ((rename Arm => lA); (clear lA); (refine stop_in ?_)))
local macro_rules | `(tactic| walk_at "exec If") => `(tactic| ((rename Arm => lA); (clear lA); (refine stop_in ?_)))
local macro_rules | `(tactic| walk_at "compareOp NotIn str ref") => `(tactic| (plain_pass; k_here; k_dflt (refine' notin_list_strs ?hl ?hS ?_; (case hl => exact News.isList (by k_asm) (by k_mem)); (case hS => walk_at "my_strs"))))
local macro_rules | `(tactic| walk_at "my_strs") => `(tactic| first | exact StrsAre.nil | (refine StrsAre.cons _ _ ?_; walk_at "my_strs"))
local macro_rules | `(tactic| walk_at "TestE") => `(tactic| exact TestE.intro (by assumption) (news_sub (by assumption) (by walk_at "my_sub2")) (by first | exact firstP_f (by assumption) | exact firstP_tt (by assumption) (by assumption) | exact firstP_tf (by assumption) (by assumption)))
local macro_rules | `(tactic| walk_at "exec Assign cons ListComp") => `(tactic| (refine wpAny_Assign_Name ?_ (by with_unfolding_all rfl)))
local macro_rules | `(tactic| walk_at "exec Assign cons ListComp") => `(tactic| (k_here; (with_reducible show wpAny _ _ (exec (Stmt.Assign [_] (Expr.ListComp _ [⟨Expr.Tuple _ _ _, _, _, _⟩] _ _) _) _) _ _ _); k_dflt (refine lc_enumA (_F₀ := by k_asm) (by rfl) (by with_unfolding_all rfl) (by with_unfolding_all rfl) (by decide) (by rfl) (by decide) (by rfl) (by rfl) (by decide) (by rfl) (by rfl) (by rfl) ?_)))
local macro_rules | `(tactic| walk_at "call type:enumerate") => `(tactic| (refine stop_in ?_))
local macro_rules | `(tactic| walk_at "RankE") => `(tactic| exact RankE.intro (by assumption) (news_sub (by assumption) (by walk_at "my_sub2")) (by assumption) (by assumption) (by assumption))
def Arm2 : Prop := True
local macro_rules | `(tactic| walk_at "exec Return some") => `(tactic| ((rename Arm2 => lA); (clear lA); (refine stop_in ?_)))
local macro_rules | `(tactic| walk_at "getMethod ref") => `(tactic| (k_here; (with_reducible show wpAny _ _ (getMethod (Value.ref _) (Str.ofString "sorted_keys") _) _ _ _); k_dflt
  (refine' method_told (T := "function") ?F ?X ?N ?x ?d ?f ?t ?y ?_; (case F => k_asm); (case X => k_asm); (case N => k_asm); (case x => k_mem); (case d => k_mem); (case f => exact find_skeys _); (case t => exact looks_typeIn (Frag.In.keeps (by k_asm) (Fr.keep (by k_asm))) (type_skeys _)); (case y => decide))))
local macro_rules | `(tactic| walk_at "getMethod ref") => `(tactic| (k_here; (with_reducible show wpAny _ _ (getMethod (Value.ref _) (Str.ofString "sorted_items") _) _ _ _); k_dflt
  (refine' method_told (T := "function") ?F ?X ?N ?x ?d ?f ?t ?y ?_; (case F => k_asm); (case X => k_asm); (case N => k_asm); (case x => k_mem); (case d => k_mem); (case f => exact find_sitems _); (case t => exact looks_typeIn (Frag.In.keeps (by k_asm) (Fr.keep (by k_asm))) (type_sitems _)); (case y => decide))))
local macro_rules | `(tactic| walk_at "getMethod ref") => `(tactic| (k_here; (with_reducible show wpAny _ _ (getMethod (Value.ref _) (Str.ofString "keys") _) _ _ _); k_dflt (refine' method_told (T := "method_descriptor") ?F ?X ?N ?x ?d ?f ?t ?y ?_; (case F => k_asm); (case X => k_asm); (case N => k_asm); (case x => k_mem); (case d => k_mem); (case f => exact ke_find _); (case t => exact Looks.of_pure ty_keys); (case y => decide))))
local macro_rules | `(tactic| walk_at "call builtin:dict.keys") => `(tactic| (k_here; (with_reducible show wpAny _ _ (call (Value.builtin "dict.keys") [Value.ref _]) _ _ _); k_dflt (refine' kt_keys ?F ?X ?N ?p ?s ?_; (case F => k_asm); (case X => k_asm); (case N => k_asm); (case p => k_mem); (case s => assumption)); intro D' h' F' N' l1; (try k_lt l1)))
local macro_rules | `(tactic| walk_at "my_tab") => `(tactic| first | exact TabNow.st (by assumption) (by k_mem) | exact .inl rfl)
local macro_rules | `(tactic| walk_at "call ref") => `(tactic| (k_here; k_dflt (first
  | (refine' g_sk ?hA0 ?hA ?hcr ?hcu ?B ?F ?X ?N ?U ?T ?HC ?ht ?hm ?hf ?hk ?hE ?hG ?hxs ?hne ?HT ?_; (case hA0 => exact rfl); (case hA => exact rfl); (case hcr => k_room); (case hcu => walk_at "my_units"); (case B => k_asm); (case F => k_asm); (case X => k_asm); (case N => k_asm); (case U => k_updF); (case T => k_asm); (case HC => first | assumption | exact CodeHd.keeps (by assumption) (Fr.keep (by assumption))); (case ht => k_mem); (case hm => k_mem); (case hf => exact rfl); (case hk => exact rfl); (case hE => assumption); (case hG => assumption); (case hxs => assumption); (case hne => first | assumption | omega); (case HT => walk_at "my_tab"); (intro h' tk' D' vs' xs' k' c9' oc' ps' F' N' T' S' C' l1; (try dsimp only at N'); have n25' := TabNow.ne T' N' (by k_mem) (by k_mem); replace S' := strs_sorted C' S'; (try k_lt l1)))
  | (refine' g_si ?hA0 ?hA ?hcr ?hcu ?B ?F ?X ?N ?U ?T ?HC ?ht ?hm ?hf ?hk ?hE ?hG ?hxs ?hne ?HT ?_; (case hA0 => exact rfl); (case hA => exact rfl); (case hcr => k_room); (case hcu => walk_at "my_units"); (case B => k_asm); (case F => k_asm); (case X => k_asm); (case N => k_asm); (case U => k_updF); (case T => k_asm); (case HC => first | assumption | exact CodeHd.keeps (by assumption) (Fr.keep (by assumption))); (case ht => k_mem); (case hm => k_mem); (case hf => exact rfl); (case hk => exact rfl); (case hE => assumption); (case hG => assumption); (case hxs => assumption); (case hne => first | assumption | omega); (case HT => walk_at "my_tab"); (intro h' tk' D' as' ep' seg' xs' c9' oc' ps' F' N' T' C' R' off'; (try dsimp only at N'); replace R' := rows_sorted (by assumption) C' R')))))
local macro_rules | `(tactic| walk_at "call builtin:sorted") => `(tactic| (k_here; (with_reducible show wpAny _ _ (call (Value.builtin "sorted") [Value.ref _]) _ _ _); k_dflt (first
  | (refine' ln_sortedD ?hh ?F ?N ?p ?E ?n ?z ?lo ?_; (case hh => exact rfl); (case F => k_asm); (case N => k_asm); (case p => k_mem); (case E => assumption); (case n => exact And.left (by assumption)); (case z => exact GoodC.len (by assumption)); (case lo => assumption); (intro D' h' tk' vs' k' F' N' S' l1; (try k_lt l1)))
  | (refine' ln_sortedI ?hh ?F ?N ?v ?p ?E ?n ?z ?_; (case hh => exact rfl); (case F => k_asm); (case N => k_asm); (case v => k_mem); (case p => k_mem); (case E => assumption); (case n => exact And.left (by assumption)); (case z => exact GoodC.len (by assumption)); (intro l' h' tk' as' ep' sg' F' N' rw' l1))
  | (refine' ln_sortedL ?F ?N ?l ?S ?h5 ?_; (case F => k_asm); (case N => k_asm); (case l => k_mem); (case S => assumption); (case h5 => exact filter_len (by assumption)); (intro D' h' tk' vs' k' F' N' S' l1; (try k_lt l1))))))
local macro_rules | `(tactic| walk_at "compareOp NotEq ref ref") => `(tactic| (k_here; (with_reducible show wpAny _ _ (compareOp CmpOp.NotEq (Value.ref _) (Value.ref _)) _ _ _); k_dflt (first
  | (refine' ln_strs_ne ?N ?m1 ?m2 ?r1 ?r2 ?hu ?_; (case N => k_asm); (case m1 => k_mem); (case m2 => k_mem); (case r1 => assumption); (case r2 => assumption); (case hu => walk_at "my_units"))
  | (refine' ln_rows_ne ?N ?m1 ?m2 ?r1 ?r2 ?s1 ?s2 ?hu ?_; (case N => k_asm); (case m1 => k_mem); (case m2 => k_mem); (case r1 => assumption); (case r2 => assumption); (case s1 => walk_at "my_app"); (case s2 => walk_at "my_app"); (case hu => walk_at "my_units")))))
local macro_rules | `(tactic| walk_at "CompSrc") => `(tactic| (refine stop_in ?_))
local macro_rules | `(tactic| walk_at "CompRest") => `(tactic| (refine stop_in ?_))
local macro_rules | `(tactic| walk_at "CompEnd") => `(tactic| (refine stop_in ?_))
local macro_rules | `(tactic| walk_at "eval ListComp") => `(tactic| (refine stop_in ?_))
local macro_rules | `(tactic| walk_at "eval ListComp") => `(tactic| (k_here; (with_reducible show wpAny _ _ (eval (Expr.ListComp _ [⟨Expr.Name _ _, _, [_], _⟩] _ _) _) _ _ _); k_dflt (refine lc_filter (_F₀ := by k_asm) (by with_unfolding_all rfl) (by decide) (by rfl) (by decide) (by rfl) (by rfl) ?_)))
local macro_rules | `(tactic| walk_at "FSrc") => `(tactic| (refine stop_in ?_))
local macro_rules | `(tactic| walk_at "TestE") => `(tactic| exact TestE.intro (by assumption) (news_sub (by assumption) (by walk_at "my_sub2")) (by first | exact firstP_f (by assumption) | exact firstP_tt (by assumption) (by assumption) | exact firstP_tf (by assumption) (by assumption)))
local macro_rules | `(tactic| walk_at "TestE") => `(tactic| exact TestE.intro (by assumption) (news_sub (by assumption) (by walk_at "my_sub2")) rfl)
local macro_rules | `(tactic| walk_at "call ref") => `(tactic| (k_here; k_dflt (refine' g_canR ?hA0 ?hA ?hcr ?hcu ?B ?F ?X ?N ?U ?T ?HC ?hv ?ht ?hl ?hf ?hk ?hE ?h5 ?HT ?_; (case hA0 => exact rfl); (case hA => exact rfl); (case hcr => k_room); (case hcu => walk_at "my_units"); (case B => k_asm); (case F => k_asm); (case X => k_asm); (case N => k_asm); (case U => k_updF); (case T => k_asm); (case HC => first | assumption | exact CodeHd.keeps (by assumption) (Fr.keep (by assumption))); (case hv => k_mem); (case ht => k_mem); (case hl => k_mem); (case hf => exact rfl); (case hk => exact rfl); (case hE => assumption); (case h5 => exact GoodC.len (by assumption)); (case HT => walk_at "my_tab"); (intro h' tk' D' vs' xs' k' c9' oc' ps' F' N' T' S' C' l1; (try dsimp only at N'); replace S' := strs_final (by assumption) C' S'; (try k_lt l1)))))
local macro_rules | `(tactic| walk_at "binaryOp Add ref ref") => `(tactic| (k_here; (with_reducible show wpAny _ _ (binaryOp _ (Value.ref _) (Value.ref _)) _ _ _); k_dflt (refine' ln_addS ?F ?N ?a ?b ?i ?j ?z ?_; (case F => k_asm); (case N => k_asm); (case a => k_mem); (case b => k_mem); (case i => assumption); (case j => assumption); (case z => exact fin_fit (GoodC.len (by assumption)))); intro D' ws' h' F' N' l1 hI'; (try k_lt l1)))
local macro_rules | `(tactic| walk_at "compareOp Eq ref ref") => `(tactic| (k_here; (with_reducible show wpAny _ _ (compareOp CmpOp.Eq (Value.ref _) (Value.ref _)) _ _ _); k_dflt (refine' ln_strs_eq ?N ?m1 ?m2 ?r1 ?r2 ?hu ?_; (case N => k_asm); (case m1 => k_mem); (case m2 => k_mem); (case r1 => assumption); (case r2 => assumption); (case hu => walk_at "my_units"))))

theorem top : PySem.Challenge.rw_bl0005_01.Holds := hd (by
  have arm : Arm := trivial
  k_go0
  all_goals (try k_fold)
  k_steps
  unfold Stop
  (rename Fr _ _ _ _ => lF')
  (with_unfolding_all refine' For_invVF lF' ?k1 ?k2 ?_; (case k1 => exact rfl); (case k2 => exact rfl); k_whole)
  have arm : Arm := trivial
  k_steps
  unfold Stop
  (with_unfolding_all refine' law_loop (tn := Str.ofString "told") ?hh ?hr ?h0 ?h1 ?F ?N ?hsub ?hm ?hi0 ?hi1 ?turn ?done)
  (case hh => exact rfl)
  (case hr => assumption)
  (case h0 => assumption)
  (case h1 => assumption)
  (case F => assumption)
  (case N => assumption)
  (case hsub => exact fun p hp => List.Mem.tail _ hp)
  (case hm => rfl)
  (case hi0 => assumption)
  (case hi1 => assumption)
  case done =>
    intro m' es' n' es2' n2' c' i' t' ti' tt' e1' h' tk a1 a2 a3 a4 a5 F' N'
    have hsz := Nat.le_trans a3.len (show 5 ≤ 1000 by decide)
    have hn' := And.left a3
    have h5 := GoodC.len a3
    k_steps
    unfold Stop
    refine LCg.ListComp_U (F₀ := by k_asm) (by with_unfolding_all rfl) (by decide) (by rfl) (by decide) (by rfl) ?_
    k_steps
    unfold Stop
    (rename Fr _ _ _ _ => lF')
    (rename News _ _ _ _ => lN')
    refine' comp_ranks (pre := [_, _, _]) ?c1qhh lF' lN' ?c1qr a4 a5 ?c1qT ?c1qfin
    (case c1qhh => exact rfl)
    (case c1qr => with_reducible assumption)
    (case c1qT =>
      clear lF' lN'
      intro i2 t2 ti2 tt2 e2 I' oI' C' oC' D' oD' m9' h' tk' E' b0 b1 hC' F' N' off' ne'
      (simp only [List.cons_append, List.nil_append] at N' off')
      (simp only [LCg.Off3, and_true] at off')
      k_steps)
    (case c1qfin =>
      clear lF' lN'
      intro D' h' tk' r0 t0 r1 t1 r2 t2 i2 t2' ti2 tt2 e2 k9 f0 f1 f2 b0 b1 F' N' off'
      (simp only [List.cons_append, List.nil_append] at N' off')
      (simp only [LCg.Off1, and_true] at off')
      k_steps
      unfold Stop
      (rename Fr _ _ _ _ => lF')
      (rename News _ _ _ _ => lN')
      refine' ESrc.intro (vs := [.str r0 t0, .str r1 t1, .str r2 t2]) (xs := [r0, r1, r2]) (l := D') (n := k9) ?c2qhh lF' lN' (by k_mem) (.cons _ _ (.cons _ _ (.cons _ _ .nil))) (Nat.le_of_ble_eq_true rfl) ?c2qfin
      (case c2qhh => exact rfl)
      clear lF' lN'
      intro g'
      refine ⟨firstP c' [r0, r1, r2], ?_, ?_⟩
      · intro i3 x3 t3 ti3 e3 oe3 it3 oit3 C3 oC3 D3 oD3 m3 h' tk' E' hx3 hC' ha3 hb3 F' N'
        obtain ⟨hi3, hx4⟩ := List.getElem?_eq_some_iff.mp hx3
        have hi4 : i3 = 0 ∨ i3 = 1 ∨ i3 = 2 := by simp at hi3; omega
        rcases hi4 with rfl | rfl | rfl
        · obtain rfl : r0 = x3 := hx4
          k_steps
        · obtain rfl : r1 = x3 := hx4
          k_steps
        · obtain rfl : r2 = x3 := hx4
          k_steps
      · intro D2 h' tk' vs k F' N' off' S'
        (simp only [LCg.Off1, and_true] at off')
        have arm2 : Arm2 := trivial
        k_steps
        unfold Stop
        (rename Fr _ _ _ _ => lF')
        (rename News _ _ _ _ => lN')
        have lM := led_cut lN'
        clear lN'
        have n25 := TabNow.ne (by assumption) lM (.head _) (by k_mem)
        k_steps
        unfold Stop
        (rename Fr _ _ _ _ => lF')
        (rename News _ _ _ _ => lN')
        refine' FSrc.dict (p := fun k => !([r0, r1, r2].any (· == k))) ?c3qhh lF' lN' (by k_mem) a2 hn' hsz ?c3qlo ?c3qT ?c3qfin
        (case c3qhh => exact rfl)
        (case c3qlo => with_reducible assumption)
        (case c3qT =>
          clear lF' lN'
          intro k' t' I' oI' C' oC' D' oD' m' h' tk' E' hk' hC' hx' F' N' off' ne'
          k_steps)
        (case c3qfin =>
          clear lF' lN'
          intro ys' S' D' h' tk' F' N' off'
          (simp only [LCg.Off1, and_true] at off')
          (try dsimp only)
          k_steps))
  case turn =>
    intro k' tk' m' es' n' es2' n2' c' i' t' ti' tt' e1' h' tk own a1 a2 a3 a4 a5 hoff F' N'
    (simp only [List.cons_append, List.nil_append] at N')
    have hsz := Nat.le_trans a3.len (show 5 ≤ 1000 by decide)
    have hKE : _ = none := mg_none_of (n := Str.ofString "KeyError") (by assumption) (Top.g (by assumption)) (by k_is)
    have arm : Arm := trivial
    k_steps
    unfold Stop
    (rename Fr _ _ _ _ => lF')
    (rename News _ _ _ _ => lN')
    refine cut1 (pre := [_, _]) lF' lN' ?_ ?_
    · k_steps
    · clear lF' lN'
      intro h' tk' es' n' es2' n2' c' F' N' E1 E2 GC
      have arm : Arm := trivial
      k_steps
      unfold Stop
      (rename Fr _ _ _ _ => lF')
      (rename News _ _ _ _ => lN')
      refine cut2 lF' lN' ?_ ?_
      · have hsz' := Nat.le_trans (GoodC.len GC) (show 5 ≤ 1000 by decide)
        have hn' := And.left GC
        have hdq := deq_same c'
        k_steps
      · intro h' tk' F' N'
        k_steps
)
end Mine
end
theorem PySem.Challenge.cw_bl0005_01_holds : PySem.Challenge.rw_bl0005_01.Holds :=
  Mine.top
