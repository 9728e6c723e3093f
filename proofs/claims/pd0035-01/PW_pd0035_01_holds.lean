import PyProof.Rows.All
import Wide.All
import OpenK.AllK
import Wide.FinOn
import PySem.Challenge.RW_pd0035_01
set_option Elab.async false

-- part Top35
section
open PySem PySem.W PyProof.Rows
set_option maxRecDepth 100000
set_option maxHeartbeats 8000000
open_top Mine35.hd for PySem.Challenge.rw_pd0035_01
end

-- part Base35
section
set_option maxRecDepth 100000
set_option maxHeartbeats 1000000
namespace Mine35
open PySem PySem.W PySem.Calls PyProof.Rows

/-- a state by its heap and its count of tokens -/
abbrev St (s : Shared) (h : Heap) (t : Nat) : Shared := { s with heap := h, toks := t }

/-- the written part of the top -/
noncomputable abbrev KF (w : World) : Frag := Mine35.hd.heap_39 w.params

/-- what the top gives, kept by every growing heap -/
structure Wd (w : World) (h : Heap) : Prop where
  K : (KF w).In h
  lim : h.NoLimit
  ns : ∃ mg mb, h.Ns mainGlobals mg ∧ h.Ns builtinsNs mb ∧ ∀ x : Str, x ≠ "__name__" → mb x = bootBuiltins x

theorem Wd.mono {w : World} {h h' : Heap} (x : Wd w h) (k : h.StaysIn h') : Wd w h' :=
  ⟨x.K.keeps k, x.lim.keeps k, let ⟨mg, mb, a, b, c⟩ := x.ns; ⟨mg, mb, a.keeps k, b.keeps k, c⟩⟩

theorem stays_refl (h : Heap) : h.StaysIn h := fun _ _ e => e
theorem stays_trans {a b c : Heap} (x : a.StaysIn b) (y : b.StaysIn c) : a.StaysIn c := fun p o e => y p o (x p o e)
theorem stays_push (h : Heap) (o : Obj) : h.StaysIn (h.push o) := fun _ _ e => Heap.get?_push_of_some _ e

/-- frozen part g, heap h, the frame's names at L, the objects that may change -/
structure S (g h : Heap) (L : Addr) (m : Str → Option Value) (mu : List (Addr × Obj)) : Prop where
  keep : g.StaysIn h
  ns : h.Ns L m
  gL : g.get? L = none
  has : ∀ p ∈ mu, h.get? p.1 = some p.2
  off : ∀ p ∈ mu, g.get? p.1 = none ∧ p.1 ≠ L
  nd : (mu.map (·.1)).Nodup

section
variable {g h h' : Heap} {L a : Addr} {m m' : Str → Option Value} {mu : List (Addr × Obj)} {o o' : Obj}

theorem S.stays (s : S g h L m mu) (k : h.StaysIn h') : S g h' L m mu :=
  ⟨stays_trans s.keep k, s.ns.keeps k, s.gL, fun p hp => k _ _ (s.has p hp), s.off, s.nd⟩

theorem S.frz (s : S g h L m mu) : ∃ g', g.StaysIn g' ∧ S g' h L m mu ∧ ∀ b o, h.get? b = some o → b ≠ L → (∀ p ∈ mu, p.1 ≠ b) → g'.get? b = some o := by
  have key : ∀ b o, h.get? b = some o → b ≠ L → (∀ p ∈ mu, p.1 ≠ b) → (hideAll h (L :: mu.map (·.1))).get? b = some o := fun b o e h1 h2 =>
    hideAll_get _ e fun hm => by
      rcases List.mem_cons.mp hm with rfl | hm
      · exact h1 rfl
      · obtain ⟨p, hp, rfl⟩ := List.mem_map.mp hm
        exact h2 p hp rfl
  refine ⟨hideAll h (L :: mu.map (·.1)), fun b o e => key b o (s.keep b o e) (fun q => ?_) (fun p hp q => ?_), ⟨fun b o e => of_hideAll _ e, s.ns, hideAll_none _ List.mem_cons_self, s.has, fun p hp => ⟨hideAll_none _ (List.mem_cons_of_mem _ (List.mem_map_of_mem hp)), (s.off p hp).2⟩, s.nd⟩, key⟩
  · rw [q, s.gL] at e; cases e
  · rw [← q, (s.off p hp).1] at e; cases e

theorem S.grow (s : S g h L m mu) (k : h.StaysIn h') : ∃ g', g.StaysIn g' ∧ S g' h' L m mu ∧ ∀ b o, h.get? b = none → h'.get? b = some o → g'.get? b = some o := by
  obtain ⟨g', e1, e2, e3⟩ := (s.stays k).frz
  refine ⟨g', e1, e2, fun b o hn hb => e3 b o hb (fun q => ?_) fun p hp q => ?_⟩
  · obtain ⟨oL, _, _, hL, _⟩ := s.ns
    rw [q, hL] at hn; cases hn
  · rw [← q, s.has p hp] at hn; cases hn

theorem S.new (s : S g h L m mu) (k : h.StaysIn h') (hn : h.get? a = none) (ha : h'.get? a = some o) : S g h' L m ((a, o) :: mu) := by
  have hg : g.get? a = none := by
    cases q : g.get? a with
    | none => rfl
    | some x => rw [s.keep _ _ q] at hn; cases hn
  have hL : a ≠ L := by
    rintro rfl
    obtain ⟨oL, _, _, hL, _⟩ := s.ns
    rw [hL] at hn; cases hn
  refine ⟨stays_trans s.keep k, s.ns.keeps k, s.gL, fun p hp => ?_, fun p hp => ?_, ?_⟩
  · rcases List.mem_cons.mp hp with rfl | hp
    · exact ha
    · exact k _ _ (s.has p hp)
  · rcases List.mem_cons.mp hp with rfl | hp
    · exact ⟨hg, hL⟩
    · exact s.off p hp
  · refine List.nodup_cons.mpr ⟨fun hm => ?_, s.nd⟩
    obtain ⟨p, hp, q⟩ := List.mem_map.mp hm
    have q' : p.1 = a := q
    have := s.has p hp; rw [q', hn] at this; cases this

theorem S.freeze1 (s : S g h L m ((a, o) :: mu)) : ∃ g', g.StaysIn g' ∧ g'.get? a = some o ∧ S g' h L m mu := by
  have s' : S g h L m mu := ⟨s.keep, s.ns, s.gL, fun p hp => s.has p (.tail _ hp), fun p hp => s.off p (.tail _ hp), (List.nodup_cons.mp s.nd).2⟩
  obtain ⟨g', e1, e2, e3⟩ := s'.frz
  refine ⟨g', e1, e3 a o (s.has (a, o) (.head _)) (s.off (a, o) (.head _)).2 fun p hp q => ?_, e2⟩
  exact (List.nodup_cons.mp s.nd).1 (List.mem_map.mpr ⟨p, hp, q⟩)

theorem S.forget (s : S g h L m ((a, o) :: mu)) : S g h L m mu :=
  ⟨s.keep, s.ns, s.gL, fun p hp => s.has p (.tail _ hp), fun p hp => s.off p (.tail _ hp), (List.nodup_cons.mp s.nd).2⟩

theorem S.setL (s : S g h L m mu) (hn : h'.Ns L m') (k : Heap.SameBut L h h') : S g h' L m' mu :=
  ⟨fun b o e => k.extBut b o (fun q => by rw [q, s.gL] at e; cases e) (s.keep b o e), hn, s.gL, fun p hp => k.extBut _ _ (s.off p hp).2 (s.has p hp), s.off, s.nd⟩

theorem S.upd (s : S g h L m ((a, o) :: mu)) (k : Heap.SameBut a h h') (e : h'.get? a = some o') : S g h' L m ((a, o') :: mu) := by
  have hne : ∀ p ∈ mu, p.1 ≠ a := fun p hp q => (List.nodup_cons.mp s.nd).1 (List.mem_map.mpr ⟨p, hp, q⟩)
  have oa := s.off (a, o) (.head _)
  refine ⟨fun b x hb => k.extBut b x (fun q => by rw [q, oa.1] at hb; cases hb) (s.keep b x hb), s.ns.sameBut k (Ne.symm oa.2), s.gL, fun p hp => ?_, fun p hp => ?_, s.nd⟩
  · rcases List.mem_cons.mp hp with rfl | hp
    · exact e
    · exact k.extBut _ _ (hne p hp) (s.has p (.tail _ hp))
  · rcases List.mem_cons.mp hp with rfl | hp
    · exact oa
    · exact s.off p (.tail _ hp)

theorem S.perm {mu' : List (Addr × Obj)} (s : S g h L m mu) (p : mu.Perm mu') : S g h L m mu' :=
  ⟨s.keep, s.ns, s.gL, fun q hq => s.has q (p.mem_iff.mpr hq), fun q hq => s.off q (p.mem_iff.mpr hq), (p.map _).nodup_iff.mp s.nd⟩

theorem S.sub {mu' : List (Addr × Obj)} (s : S g h L m mu) (p : mu'.Sublist mu) : S g h L m mu' :=
  ⟨s.keep, s.ns, s.gL, fun q hq => s.has q (p.subset hq), fun q hq => s.off q (p.subset hq), (p.map _).nodup s.nd⟩

theorem S.get (s : S g h L m mu) (hp : (a, o) ∈ mu) : h.get? a = some o := s.has _ hp
theorem S.nsc (s : S g h L m mu) (e : m = m') : S g h L m' mu := e ▸ s
end

section
variable {M : Model} {A : Around} {E : Value → Shared → Prop} {s : Shared} {h : Heap} {t : Nat} {env : Env} {w : World} {x : Str} {pos : Pos} {v : Value} {Q : Value → Shared → Prop} {m : Str → Option Value} {g : Heap} {L : Addr} {mu : List (Addr × Obj)}

theorem ev_local (hs : S g h L m mu) (hv : m x = some v) (k : Q v (St s h t)) (hL : env.locals = L := by rfl) (hk : env.scope.kind = .function := by rfl)
    (hl : env.kindOf x = some .local := by rfl) (hd : (x == ("__debug__" : Str)) = false := by decide) : wpAny M A (eval (.Name x pos) env) Q E (St s h t) :=
  wpAny_Name (wpAny_loadName_local hk hl (by rw [hL]; exact hs.ns) hv k) hd

theorem ld_local (hs : S g h L m mu) (hv : m x = some v) (k : Q v (St s h t)) (hL : env.locals = L := by rfl) (hk : env.scope.kind = .function := by rfl)
    (hl : env.kindOf x = some .local := by rfl) : wpAny M A (loadName env x) Q E (St s h t) :=
  wpAny_loadName_local hk hl (by rw [hL]; exact hs.ns) hv k

theorem ev_glob (hw : Wd w h) (e : nsIn (KF w) mainGlobals x = some (some v)) (k : Q v (St s h t)) (hg : env.globals = mainGlobals := by rfl) (hk : env.scope.kind = .function := by rfl)
    (hl : env.kindOf x = some .globalImplicit := by rfl) (hd : (x == ("__debug__" : Str)) = false := by decide) : wpAny M A (eval (.Name x pos) env) Q E (St s h t) := by
  obtain ⟨mg, mb, a, b, c⟩ := hw.ns
  exact Calls.Name_function_global hk hl (Calls.loadGlobal_global (env := env) (by rw [hg]; exact a) (mg_of hw.K a e) k) hd

theorem ev_boot (hw : Wd w h) (e : nsIn (KF w) mainGlobals x = some none) (hv : bootBuiltins x = some v) (k : Q v (St s h t)) (hn : x ≠ "__name__" := by decide) (hg : env.globals = mainGlobals := by rfl) (hb : env.builtins = builtinsNs := by rfl)
    (hk : env.scope.kind = .function := by rfl) (hl : env.kindOf x = some .globalImplicit := by rfl) (hd : (x == ("__debug__" : Str)) = false := by decide) : wpAny M A (eval (.Name x pos) env) Q E (St s h t) := by
  obtain ⟨mg, mb, a, b, c⟩ := hw.ns
  exact Calls.Name_function_global hk hl (Calls.loadGlobal_builtin (env := env) (by rw [hg]; exact a) (mg_none_of hw.K a e) (by rw [hb]; exact b) ((c x hn).trans hv) k) hd

theorem ev_free {c : Addr} (hc : env.cells.lookup x = some c) (hv : h.IsCell c (some v)) (k : Q v (St s h t)) (hk : env.scope.kind = .function := by rfl) (hl : env.kindOf x = some .free := by rfl)
    (hn : (x == ("__classdict__" : Str)) = false := by decide) (hd : (x == ("__debug__" : Str)) = false := by decide) : wpAny M A (eval (.Name x pos) env) Q E (St s h t) :=
  wpAny_Name (wpAny_loadName_free hk hl hc hv k hn) hd

theorem ev_cell {c : Addr} (hc : env.cells.lookup x = some c) (hv : h.IsCell c (some v)) (k : Q v (St s h t)) (hk : env.scope.kind = .function := by rfl) (hl : env.kindOf x = some .cell := by rfl)
    (hd : (x == ("__debug__" : Str)) = false := by decide) : wpAny M A (eval (.Name x pos) env) Q E (St s h t) :=
  wpAny_Name (wpAny_loadName_cell hk hl hc hv k) hd
end

section
variable {M : Model} {A : Around} {E : Value → Shared → Prop} {s : Shared} {h : Heap} {t : Nat} {env : Env} {w : World} {x : Str} {v : Value} {Q : Unit → Shared → Prop} {m : Str → Option Value} {g : Heap} {L : Addr} {mu : List (Addr × Obj)}

theorem st_local (hs : S g h L m mu) (k : ∀ h', S g h' L (fun y => if y = x then some v else m y) mu → Q () (St s h' (t + 1))) (hL : env.locals = L := by rfl) (hk : env.scope.kind = .function := by rfl)
    (hl : env.kindOf x = some .local := by rfl) : wpAny M A (storeName env x v) Q E (St s h t) := by
  subst hL
  exact wpAny_storeName_local (s := St s h t) hl hs.ns (fun h' hn hsb => k h' (hs.setL hn hsb)) (by rw [hk]; rfl)

theorem st_cell {c : Addr} {o : Obj} {v₀ : Option Value} (hs : S g h L m ((c, o) :: mu)) (ho : o.data = .cell v₀) (k : ∀ h' o', o'.data = .cell (some v) → S g h' L m ((c, o') :: mu) → Q () (St s h' t)) (hc : env.cells.lookup x = some c := by rfl)
    (hk : env.scope.kind = .function := by rfl) (hl : env.kindOf x = some .cell := by rfl) : wpAny M A (storeName env x v) Q E (St s h t) :=
  wpAny_storeName_cell (s := St s h t) hk hl hc ⟨o, hs.has _ (.head _), ho⟩ fun h' hcell hsb => by
    obtain ⟨o', e, d⟩ := hcell
    exact k h' o' d (hs.upd hsb e)
end
end Mine35
end

-- part Fn35
section
set_option maxRecDepth 100000
set_option maxHeartbeats 2000000
set_option linter.unusedVariables false
namespace Mine35
open PySem PySem.W PySem.Calls PyProof.Rows

section
variable {prog : Program} {w : World} {A : Around} {E : Value → Shared → Prop} {s : Shared} {h : Heap} {t : Nat} {env : Env} {Q : Value → Shared → Prop}

/-- arguments of a def -/
theorem cw_fn {a : Addr} {o : Obj} {fd : FuncData} {pos : Pos} {e : Expr} {rest : List Expr} {s : Shared}
    (H : wpAny (model prog w) A (spliced (backTo pos (starEach (e :: rest) env))) (fun vs s₁ => (s₁.heap.get? a = some o ∧ o.data = .func fd) ∧ wpAny (model prog w) A (call (.ref a) vs) Q E s₁) E s)
    (he : starEach (e :: rest) env = (false, eval e env) :: starEach rest env := by rfl) :
    wpAny (model prog w) A (callWith pos (.ref a) [] (backTo pos (starEach (e :: rest) env)) (backToKw pos (keywordEach [] env))) Q E s := by
  refine callWith_function (o := o) (fd := fd) ?_
  rw [he] at H ⊢
  exact evalArgs_plain (wpAny_mono H (fun vs s' h' => h') fun _ _ x => x)

theorem cw_bi {id : String} {pos : Pos} {e : Expr} {rest : List Expr} {s : Shared}
    (H : wpAny (model prog w) A (spliced (backTo pos (starEach (e :: rest) env))) (fun vs s₁ => wpAny (model prog w) A (call (.builtin id) vs) Q E s₁) E s)
    (he : starEach (e :: rest) env = (false, eval e env) :: starEach rest env := by rfl) (hp : (backTo pos (starEach (e :: rest) env)).any (·.1) = false := by rfl) :
    wpAny (model prog w) A (callWith pos (.builtin id) [] (backTo pos (starEach (e :: rest) env)) (backToKw pos (keywordEach [] env))) Q E s := by
  refine callWith_builtin hp ?_
  rw [he] at H ⊢
  exact evalArgs_plain (wpAny_mono H (fun vs s' h' => h') fun _ _ x => x)

theorem cw_ty {T : String} {pos : Pos} {e : Expr} {rest : List Expr} {s : Shared}
    (H : wpAny (model prog w) A (spliced (backTo pos (starEach (e :: rest) env))) (fun vs s₁ => wpAny (model prog w) A (call (.type T) vs) Q E s₁) E s)
    (he : starEach (e :: rest) env = (false, eval e env) :: starEach rest env := by rfl) (hp : (backTo pos (starEach (e :: rest) env)).any (·.1) = false := by rfl) :
    wpAny (model prog w) A (callWith pos (.type T) [] (backTo pos (starEach (e :: rest) env)) (backToKw pos (keywordEach [] env))) Q E s := by
  refine PyProof.Rows.callWith_type hp ?_
  rw [he] at H ⊢
  exact evalArgs_plain (wpAny_mono H (fun vs s' h' => h') fun _ _ x => x)

theorem sp1 {pos : Pos} {e : Expr} {s : Shared} {Q : List Value → Shared → Prop} (H : wpAny (model prog w) A (eval e env) (fun v s₁ => Q [v] s₁) E s)
    (he : starEach [e] env = (false, eval e env) :: starEach [] env := by rfl) : wpAny (model prog w) A (spliced (backTo pos (starEach [e] env))) Q E s :=
  wpAny_items_cons (wpAny_mono H (fun _ _ x => wpAny_items_nil x) fun _ _ x => x) he
theorem sp2 {pos : Pos} {e e' : Expr} {s : Shared} {Q : List Value → Shared → Prop} (H : wpAny (model prog w) A (eval e env) (fun v s₁ => wpAny (model prog w) A (eval e' env) (fun v' s₂ => Q [v, v'] s₂) E s₁) E s)
    (he : starEach [e, e'] env = (false, eval e env) :: starEach [e'] env := by rfl) (he' : starEach [e'] env = (false, eval e' env) :: starEach [] env := by rfl) : wpAny (model prog w) A (spliced (backTo pos (starEach [e, e'] env))) Q E s :=
  wpAny_items_cons (wpAny_mono H (fun _ _ x => sp1 x he') fun _ _ x => x) he

/-- a plain def of the top, called -/
theorem call_fn {f : Addr} {name qual : Str} {params : Arguments} {body : List Stmt} {scope : Scope} {dV kV doc pm cdv ct oc : Value} {an od : Option Addr} {osl : Array (Option Value)} {args : List Value} {binds : List (Str × Value)}
    (hw : Wd w h) (ho : (KF w).lookup f = some ⟨oc, od, .func (fnOf name qual params body scope dV kV doc pm an cdv ct), osl⟩) (hcd : codeIn (KF w) cdv qual = true) (hroom : A.depth < recursionLimit)
    (hbind : bindArgs (fnOf name qual params body scope dV kV doc pm an cdv ct) ⟨args, []⟩ = pure binds) (hcell : ∀ x ∈ scope.names, x.2 ≠ .cell) (hloc : ∀ x ∈ binds, scope.names.lookup x.1 = some .local)
    (k : ∀ L h₁ t₁ E', S h h₁ L (fun y => binds.reverse.lookup y) [] →
      wpAny (model prog w) (A.deeper (envOf qual scope L f cdv)) (execs body (envOf qual scope L f cdv)) (fun fl s' => Q (match fl with | .ret v => v | _ => .none) s') E' (St s h₁ t₁))
    (hco : scope.isCoroutine = false := by rfl) (hgen : scope.isGenerator = false := by rfl) (hk : scope.kind = .function := by rfl) :
    wpAny (model prog w) A (call (.ref f) args) Q E (St s h t) := by
  refine wpAny_call (codeAny_call_def (s := St s h t) (fd := fnOf name qual params body scope dV kV doc pm an cdv ct) (body := body) (binds := binds) hroom (hw.K _ _ ho) rfl hw.lim (codeRec_of hw.K hcd) rfl (fun M A E Q q => by rw [hbind]; exact wpAny_pure q) hcell hloc (fun h₁ hns hk₁ => ?_) hco hgen hk)
  refine wpAny_mono (k h.objs.size h₁ _ _ ⟨hk₁, hns, Heap.get?_none_of_le (Nat.le_refl _), fun _ hp => (nomatch hp), fun _ hp => (nomatch hp), List.nodup_nil⟩) (fun fl s' hq => hq) fun _ _ e => e
end

section
variable {prog : Program} {w : World} {A : Around} {E : Value → Shared → Prop} {s : Shared}
theorem nested_ty {T C : String} {dep : Int} {tk : Tok} {b : Bool} {Q : Fin → Shared → Prop} (hT : typeOf (.type T) = pure (.type "type")) (hC : typeOf (.type C) = pure (.type "type")) (hs : isSubtype (.type T) (.type C) = pure b) (hq : Q (.done (.ret (.bool b))) s) :
    wpAny (model prog w) A (Builtin.«issubclass.nested» ⟨[.type T, .type C, .int dep tk], []⟩) Q E s := by
  repeat (any_goals (first | assumption | (rw [hT]) | (rw [hC]) | (rw [hs]) | wp_step))
theorem sub_tup : isSubtype (.type "tuple") (.type "tuple") = pure true := by rw [isSubtype_type]; kernel_rfl
theorem ent_nested : entryFor table "issubclass.nested" = some Builtin.«issubclass.nested» := F.entry_issubclass_nested
theorem call_nested {T C : String} {dep : Int} {tk : Tok} {b : Bool} {Q : Value → Shared → Prop} (hT : typeOf (.type T) = pure (.type "type")) (hC : typeOf (.type C) = pure (.type "type")) (hs : isSubtype (.type T) (.type C) = pure b) (hq : Q (.bool b) s) :
    wpAny (model prog w) A (call (.builtin "issubclass.nested") [.type T, .type C, .int dep tk]) Q E s :=
  call_function_entry (by decide +kernel) (by decide +kernel) ent_nested (by unfold argsOk; kernel_rfl) (nested_ty hT hC hs ⟨_, rfl, hq⟩)
theorem nested_tup {T : String} {a : Addr} {n : Nat} {b1 b2 : Bool} {Q : Fin → Shared → Prop} (ha : s.heap.get? a = some { cls := .type "tuple", data := .seq #[.type "str", .type "bytes"] n }) (hT : typeOf (.type T) = pure (.type "type"))
    (h1 : isSubtype (.type T) (.type "str") = pure b1) (h2 : isSubtype (.type T) (.type "bytes") = pure b2) (hq : Q (.done (.ret (.bool (b1 || b2)))) s) :
    wpAny (model prog w) A (Builtin.«issubclass.nested» ⟨[.type T, .ref a, .int 0 0], []⟩) Q E s := by
  repeat (any_goals (first | assumption | (rw [hT]) | wp_step))
  dsimp only
  rw [sub_tup]
  refine wpAny_pure ?_
  rw [if_pos rfl, if_neg (by decide)]
  refine wpAny_bind (wpAny_seqItems ha rfl ?_)
  simp only [Option.getD_some, ← Array.forIn_toList, List.forIn_cons, List.forIn_nil]
  refine wpAny_bind (wpAny_bind (wpAny_bind (call_nested hT (by kernel_rfl) h1 (wpAny_bind (wpAny_truthy_bool ?_)))))
  cases b1 with
  | true => exact wpAny_bind (wpAny_pure (wpAny_pure (wpAny_pure (wpAny_pure hq))))
  | false =>
    refine wpAny_pure (wpAny_bind (wpAny_bind (call_nested hT (by kernel_rfl) h2 (wpAny_bind (wpAny_truthy_bool ?_)))))
    cases b2 with
    | true => exact wpAny_bind (wpAny_pure (wpAny_pure (wpAny_pure (wpAny_pure hq))))
    | false => exact wpAny_pure (wpAny_pure (wpAny_pure hq))
theorem call_issub {T : String} {a : Addr} {n : Nat} {b1 b2 : Bool} {Q : Value → Shared → Prop} (ha : s.heap.get? a = some { cls := .type "tuple", data := .seq #[.type "str", .type "bytes"] n }) (hT : typeOf (.type T) = pure (.type "type"))
    (h1 : isSubtype (.type T) (.type "str") = pure b1) (h2 : isSubtype (.type T) (.type "bytes") = pure b2) (hq : Q (.bool (b1 || b2)) s) :
    wpAny (model prog w) A (call (.builtin "issubclass") [.type T, .ref a]) Q E s := by
  refine wpAny_call (codeAny_call_builtin F.plain_issubclass F.entry_issubclass ?_)
  have hc : checkBuiltinCall "issubclass" ⟨[.type T, .ref a], []⟩ = pure () := by kernel_rfl
  rw [hc]
  exact wpAny_pure (issubclass_outer (nested_tup ha hT h1 h2 hq))
end

/-- a text in the law's two makes: signs below 256 as a str or as bytes -/
inductive Part (b : Bool) : Value → List Nat → Prop
  | str (x : Str) (t : Tok) : b = false → Part b (.str x t) x.cps.toList
  | bytes (x : Array UInt8) (t : Tok) : b = true → Part b (.bytes x t) (x.toList.map (·.toNat))

section
variable {prog : Program} {w : World} {A : Around} {E : Value → Shared → Prop} {s : Shared} {h : Heap} {t : Nat} {Q : Value → Shared → Prop} {b : Bool} {v : Value} {cs : List Nat}

theorem ty_str : typeOf (.type "str") = pure (.type "type") := by kernel_rfl
theorem ty_bytes : typeOf (.type "bytes") = pure (.type "type") := by kernel_rfl
theorem sub_ss : isSubtype (.type "str") (.type "str") = pure true := by rw [isSubtype_type]; kernel_rfl
theorem sub_sb : isSubtype (.type "str") (.type "bytes") = pure false := by rw [isSubtype_type]; kernel_rfl
theorem sub_bs : isSubtype (.type "bytes") (.type "str") = pure false := by rw [isSubtype_type]; kernel_rfl
theorem sub_bb : isSubtype (.type "bytes") (.type "bytes") = pure true := by rw [isSubtype_type]; kernel_rfl

theorem fspath_spec (hw : Wd w h) (hv : Part b v cs) (hroom : A.depth + 1 < recursionLimit) (k : ∀ h' t', h.StaysIn h' → Q v (St s h' t')) : wpAny (model prog w) A (call (.ref 94) [v]) Q E (St s h t) := by
  refine call_fn hw (f := 94) (binds := [(Str.ofString "path", v)]) rfl rfl (by lia) rfl (by decide) (locs rfl) ?_
  intro L h₁ t₁ E' s₁
  refine wpAny_execs_cons (wpAny_Assign_Name (wpAny_Call_ofName (ev_boot (hw.mono s₁.keep) rfl rfl (cw_ty (sp1 (ev_local s₁ rfl ?_))))))
  cases hv with
  | str x tk hb =>
    refine call_type_of (Tx := "str") rfl (by decide +kernel) (st_local s₁ fun h₂ s₂ => ?_)
    have hw₂ := hw.mono s₂.keep
    refine wpAny_execs_cons (wpAny_If (isTrue_plain (wpAny_Call_ofName (ev_boot hw₂ rfl rfl (cw_bi (sp2 (ev_local s₂ rfl (wpAny_Tuple (sp2 (ev_boot hw₂ rfl rfl (ev_boot hw₂ rfl rfl ⟨by decide, ?_⟩)))))))))))
    refine call_issub (n := 0) (Heap.get?_push_size _ rfl) ty_str sub_ss sub_sb (wpAny_truthy_bool ?_)
    refine wpAny_execs_cons (wpAny_Return_some (ev_local (s₂.stays (stays_push _ _)) rfl ?_))
    exact k _ _ (stays_trans s₂.keep (stays_push _ _))
  | bytes x tk hb =>
    refine call_type_of (Tx := "bytes") rfl (by decide +kernel) (st_local s₁ fun h₂ s₂ => ?_)
    have hw₂ := hw.mono s₂.keep
    refine wpAny_execs_cons (wpAny_If (isTrue_plain (wpAny_Call_ofName (ev_boot hw₂ rfl rfl (cw_bi (sp2 (ev_local s₂ rfl (wpAny_Tuple (sp2 (ev_boot hw₂ rfl rfl (ev_boot hw₂ rfl rfl ⟨by decide, ?_⟩)))))))))))
    refine call_issub (n := 0) (Heap.get?_push_size _ rfl) ty_bytes sub_bs sub_bb (wpAny_truthy_bool ?_)
    refine wpAny_execs_cons (wpAny_Return_some (ev_local (s₂.stays (stays_push _ _)) rfl ?_))
    exact k _ _ (stays_trans s₂.keep (stays_push _ _))
end
end Mine35
end

-- part Ops35
section
set_option maxRecDepth 100000
set_option maxHeartbeats 2000000
set_option linter.unusedVariables false
namespace Mine35
open PySem PySem.W PySem.Calls PyProof.Rows

def starts (cs : List Nat) : Bool := cs.head? == some 47
def ends (cs : List Nat) : Bool := cs.getLast? == some 47

def bfits (atEnd : Bool) (b c : Array UInt8) : Bool :=
  if (Builtin.Bytes.window b.size none none).2 - (Builtin.Bytes.window b.size none none).1 < c.size then false
  else if atEnd then b.extract ((Builtin.Bytes.window b.size none none).2.toNat - c.size) (Builtin.Bytes.window b.size none none).2.toNat == c
  else b.extract (Builtin.Bytes.window b.size none none).1.toNat ((Builtin.Bytes.window b.size none none).1.toNat + c.size) == c

theorem gives_bstart (b c : Array UInt8) (t u : Tok) : Gives (Builtin.«bytes.startswith» ⟨[.bytes b t, .bytes c u], []⟩) (.val (.bool (bfits false b c))) := .of_eq (by kernel_rfl)
theorem gives_bend (b c : Array UInt8) (t u : Tok) : Gives (Builtin.«bytes.endswith» ⟨[.bytes b t, .bytes c u], []⟩) (.val (.bool (bfits true b c))) := .of_eq (by kernel_rfl)

theorem win (n : Nat) : Builtin.Bytes.window n none none = (0, (n : Int)) := by
  unfold Builtin.Bytes.window
  simp only [Option.getD_none]
  rw [if_neg (by lia), if_neg (by lia)]
  simp

theorem head_extract {α : Type} [BEq α] [LawfulBEq α] (l : List α) (a : α) : ((l.take 1) == [a]) = (l.head? == some a) := by
  cases l with
  | nil => simp
  | cons x r => simp

theorem last_extract {α : Type} [BEq α] [LawfulBEq α] (l : List α) (a : α) : ((l.drop (l.length - 1)) == [a]) = (l.getLast? == some a) := by
  rcases List.eq_nil_or_concat l with rfl | ⟨r, x, rfl⟩
  · simp
  · simp [List.drop_append]

theorem arr_beq {α : Type} [BEq α] [LawfulBEq α] (a b : Array α) : (a == b) = (a.toList == b.toList) := by
  rw [Bool.eq_iff_iff]; simp [beq_iff_eq, Array.toList_inj]

theorem bfits_start (b : Array UInt8) : bfits false b #[47] = starts (b.toList.map (·.toNat)) := by
  unfold bfits starts
  rw [win]
  simp only [Bool.false_eq_true, if_false]
  by_cases h : b.size = 0
  · have : b = #[] := Array.eq_empty_of_size_eq_zero h
    subst this; rfl
  · rw [if_neg (by simp; lia), arr_beq]
    have e : (b.extract (0 : Int).toNat ((0 : Int).toNat + #[(47 : UInt8)].size)).toList = b.toList.take 1 := by simp
    rw [e, show (#[(47 : UInt8)]).toList = [47] from rfl, head_extract]
    cases b.toList with
    | nil => rfl
    | cons x r =>
      simp only [List.head?_cons, List.map_cons]
      rw [Bool.eq_iff_iff]
      simp only [beq_iff_eq, Option.some.injEq]
      constructor
      · rintro rfl; rfl
      · intro e; exact UInt8.toNat_inj.mp e

theorem bfits_end (b : Array UInt8) : bfits true b #[47] = ends (b.toList.map (·.toNat)) := by
  unfold bfits ends
  rw [win]
  simp only [if_true]
  by_cases h : b.size = 0
  · have : b = #[] := Array.eq_empty_of_size_eq_zero h
    subst this; rfl
  · rw [if_neg (by simp; lia), arr_beq]
    have e : (b.extract (((b.size : Nat) : Int).toNat - #[(47 : UInt8)].size) ((b.size : Nat) : Int).toNat).toList = b.toList.drop (b.toList.length - 1) := by
      simp
      rw [List.take_of_length_le (by simp)]
    rw [e, show (#[(47 : UInt8)]).toList = [47] from rfl, last_extract, List.getLast?_map]
    cases b.toList.getLast? with
    | none => rfl
    | some x =>
      rw [Bool.eq_iff_iff]
      simp only [beq_iff_eq, Option.some.injEq, Option.map_some]
      constructor
      · rintro rfl; rfl
      · intro e; exact UInt8.toNat_inj.mp e

theorem sfits_start (x y : Str) (hy : y.cps.toList = [47]) : Txt.startswith x y = starts x.cps.toList := by
  have hl : y.length = 1 := by show y.cps.size = 1; rw [← Array.length_toList, hy]; rfl
  show (decide (0 + y.length ≤ x.length) && Builtin.Str.subAt x y 0) = _
  unfold Builtin.Str.subAt starts
  rw [hl, arr_beq, hy]
  have e : (x.cps.extract 0 (0 + 1)).toList = x.cps.toList.take 1 := by simp
  rw [e, head_extract]
  cases hx : x.cps.toList with
  | nil => simp
  | cons a r =>
    have : x.length = r.length + 1 := by show x.cps.size = _; rw [← Array.length_toList, hx]; rfl
    rw [this]; simp

theorem sfits_end (x y : Str) (hy : y.cps.toList = [47]) : Txt.endswith x y = ends x.cps.toList := by
  have hl : y.length = 1 := by show y.cps.size = 1; rw [← Array.length_toList, hy]; rfl
  have hx : x.length = x.cps.toList.length := by simp [Str.length]
  show (decide (0 + y.length ≤ x.length) && Builtin.Str.subAt x y (x.length - y.length)) = _
  unfold Builtin.Str.subAt ends
  rw [hl, arr_beq, hy, hx]
  by_cases h : x.cps.toList = []
  · rw [h]; simp
  · have hpos : 0 < x.cps.toList.length := List.length_pos_iff.mpr h
    have e : (x.cps.extract (x.cps.toList.length - 1) (x.cps.toList.length - 1 + 1)).toList = x.cps.toList.drop (x.cps.toList.length - 1) := by
      rw [Array.toList_extract, List.extract_eq_take_drop, List.take_of_length_le]
      simp; lia
    rw [e, last_extract]
    have : decide (0 + 1 ≤ x.cps.toList.length) = true := decide_eq_true (by lia)
    rw [this, Bool.true_and]

theorem Part.mkS {x : Str} {t : Tok} {cs : List Nat} (h : x.cps.toList = cs) : Part false (.str x t) cs := h ▸ Part.str x t rfl
theorem Part.mkB {x : Array UInt8} {t : Tok} {cs : List Nat} (h : x.toList.map (·.toNat) = cs) : Part true (.bytes x t) cs := h ▸ Part.bytes x t rfl
theorem Part.isS {v : Value} {cs : List Nat} (h : Part false v cs) : ∃ x t, v = .str x t ∧ x.cps.toList = cs := by
  cases h with
  | str x t _ => exact ⟨x, t, rfl, rfl⟩
  | bytes x t e => cases e
theorem Part.isB {v : Value} {cs : List Nat} (h : Part true v cs) : ∃ x t, v = .bytes x t ∧ x.toList.map (·.toNat) = cs := by
  cases h with
  | str x t e => cases e
  | bytes x t _ => exact ⟨x, t, rfl, rfl⟩

theorem u8_sep {y : Array UInt8} (h : y.toList.map (·.toNat) = [47]) : y = #[47] := by
  obtain ⟨l⟩ := y
  cases l with
  | nil => cases h
  | cons a r =>
    cases r with
    | cons _ _ => simp at h
    | nil =>
      simp only [List.map_cons, List.map_nil, List.cons.injEq, and_true] at h
      have : a = 47 := UInt8.toNat_inj.mp h
      subst this; rfl

section
variable {prog : Program} {w : World} {A : Around} {E : Value → Shared → Prop} {s : Shared} {h : Heap} {t : Nat} {Q : Value → Shared → Prop} {b : Bool} {v u : Value} {cs ds : List Nat} {env : Env}

theorem cw_m1 {id : String} {pos : Pos} {e : Expr} {ov : Value} {s : Shared}
    (H : wpAny (model prog w) A (eval e env) (fun v s₁ => wpAny (model prog w) A (call (.builtin id) [ov, v]) Q E s₁) E s)
    (he : starEach [e] env = (false, eval e env) :: starEach [] env := by rfl) :
    wpAny (model prog w) A (callWith pos (.builtin id) [ov] (backTo pos (starEach [e] env)) []) Q E s := by
  refine callWith_builtin (by rw [he]; rfl) ?_
  have H' := sp1 (pos := pos) (Q := fun vs s₁ => wpAny (model prog w) A (call (.builtin id) ([ov] ++ vs)) Q E s₁) H he
  rw [he] at H' ⊢
  exact evalArgs_plain (wpAny_mono H' (fun vs s' h' => h') fun _ _ x => x)

theorem ev_starts {o arg : Expr} {apos pos : Pos} {s : Shared}
    (H : wpAny (model prog w) A (eval o env) (fun ov s₁ => ∃ cs, Part b ov cs ∧ wpAny (model prog w) A (eval arg env) (fun sv s₂ => Part b sv [47] ∧ Q (.bool (starts cs)) s₂) E s₁) E s)
    (hbase : attributeBase o (Str.ofString "startswith") env (eval o env) = eval o env := by rfl)
    (hfew : ((backTo pos (starEach [arg] env)).all (fun x => !x.1) && (backToKw pos (keywordEach [] env)).all (fun x => x.1.isSome)
      && decide ([arg].length + ([] : List Keyword).length + (if ([] : List Keyword).isEmpty then 0 else 1) < 30)) = true := by rfl)
    (hline : (apos.endLine == pos.line) = true := by rfl)
    (he : starEach [arg] env = (false, eval arg env) :: starEach [] env := by rfl) :
    wpAny (model prog w) A (eval (.Call (.Attribute o (Str.ofString "startswith") apos) [arg] [] pos) env) Q E s := by
  cases b with
  | false =>
    refine wpAny_Call_method (T := "str") (id := "str.startswith") hbase hfew hline F.plainAttrs_str F.slot_str_startswith F.type_str_startswith (wpAny_mono H (fun ov s₁ h₁ => ?_) fun _ _ x => x)
    obtain ⟨cs, p, h₁⟩ := h₁
    obtain ⟨x, t, rfl, hx⟩ := p.isS
    refine ⟨typeIs_str _ _ _, fun a e => (nomatch e), cw_m1 (wpAny_mono h₁ (fun sv s₂ h₂ => ?_) fun _ _ x => x) he⟩
    obtain ⟨y, t', rfl, hy⟩ := h₂.1.isS
    exact SC.startswith (by rw [sfits_start x y hy, hx]; exact h₂.2)
  | true =>
    refine wpAny_Call_method (T := "bytes") (id := "bytes.startswith") hbase hfew hline FB.plainAttrs_bytes FB.slot_bytes_startswith FB.type_bytes_startswith (wpAny_mono H (fun ov s₁ h₁ => ?_) fun _ _ x => x)
    obtain ⟨cs, p, h₁⟩ := h₁
    obtain ⟨x, t, rfl, hx⟩ := p.isB
    refine ⟨rfl, fun a e => (nomatch e), cw_m1 (wpAny_mono h₁ (fun sv s₂ h₂ => ?_) fun _ _ x => x) he⟩
    obtain ⟨y, t', rfl, hy⟩ := h₂.1.isB
    rw [u8_sep hy]
    refine call_gives FB.slot_bytes_startswith rfl FB.entry_bytes_startswith (FB.args_bytes_startswith_2 _ _) (gives_bstart x _ _ _) ?_
    show Q (.bool (bfits false x #[47])) _
    rw [bfits_start, hx]; exact h₂.2

theorem ev_ends {o arg : Expr} {apos pos : Pos} {s : Shared}
    (H : wpAny (model prog w) A (eval o env) (fun ov s₁ => ∃ cs, Part b ov cs ∧ wpAny (model prog w) A (eval arg env) (fun sv s₂ => Part b sv [47] ∧ Q (.bool (ends cs)) s₂) E s₁) E s)
    (hbase : attributeBase o (Str.ofString "endswith") env (eval o env) = eval o env := by rfl)
    (hfew : ((backTo pos (starEach [arg] env)).all (fun x => !x.1) && (backToKw pos (keywordEach [] env)).all (fun x => x.1.isSome)
      && decide ([arg].length + ([] : List Keyword).length + (if ([] : List Keyword).isEmpty then 0 else 1) < 30)) = true := by rfl)
    (hline : (apos.endLine == pos.line) = true := by rfl)
    (he : starEach [arg] env = (false, eval arg env) :: starEach [] env := by rfl) :
    wpAny (model prog w) A (eval (.Call (.Attribute o (Str.ofString "endswith") apos) [arg] [] pos) env) Q E s := by
  cases b with
  | false =>
    refine wpAny_Call_method (T := "str") (id := "str.endswith") hbase hfew hline F.plainAttrs_str F.slot_str_endswith F.type_str_endswith (wpAny_mono H (fun ov s₁ h₁ => ?_) fun _ _ x => x)
    obtain ⟨cs, p, h₁⟩ := h₁
    obtain ⟨x, t, rfl, hx⟩ := p.isS
    refine ⟨typeIs_str _ _ _, fun a e => (nomatch e), cw_m1 (wpAny_mono h₁ (fun sv s₂ h₂ => ?_) fun _ _ x => x) he⟩
    obtain ⟨y, t', rfl, hy⟩ := h₂.1.isS
    exact SC.endswith (by rw [sfits_end x y hy, hx]; exact h₂.2)
  | true =>
    refine wpAny_Call_method (T := "bytes") (id := "bytes.endswith") hbase hfew hline FB.plainAttrs_bytes FB.slot_bytes_endswith FB.type_bytes_endswith (wpAny_mono H (fun ov s₁ h₁ => ?_) fun _ _ x => x)
    obtain ⟨cs, p, h₁⟩ := h₁
    obtain ⟨x, t, rfl, hx⟩ := p.isB
    refine ⟨rfl, fun a e => (nomatch e), cw_m1 (wpAny_mono h₁ (fun sv s₂ h₂ => ?_) fun _ _ x => x) he⟩
    obtain ⟨y, t', rfl, hy⟩ := h₂.1.isB
    rw [u8_sep hy]
    refine call_gives FB.slot_bytes_endswith rfl FB.entry_bytes_endswith (FB.args_bytes_endswith_2 _ _) (gives_bend x _ _ _) ?_
    show Q (.bool (bfits true x #[47])) _
    rw [bfits_end, hx]; exact h₂.2

theorem getsep_spec (hw : Wd w h) (hv : Part b v cs) (hroom : A.depth + 1 < recursionLimit) (k : ∀ r h' t', h.StaysIn h' → Part b r [47] → Q r (St s h' t')) : wpAny (model prog w) A (call (.ref 108) [v]) Q E (St s h t) := by
  refine call_fn hw (f := 108) (binds := [(Str.ofString "path", v)]) rfl rfl (by lia) rfl (by decide) (locs rfl) ?_
  intro L h₁ t₁ E' s₁
  have hw₁ := hw.mono s₁.keep
  refine wpAny_execs_cons (wpAny_If (isTrue_plain (wpAny_Call_ofName (ev_boot hw₁ rfl rfl (cw_bi (sp2 (ev_local s₁ rfl (ev_boot hw₁ rfl rfl ?_))))))))
  cases b with
  | false =>
    obtain ⟨x, tk, rfl, hx⟩ := hv.isS
    refine IsiPair.str_bytes (wpAny_truthy_bool ?_)
    exact wpAny_execs_cons (wpAny_Return_some (Calls.Constant_str (k _ _ _ s₁.keep (.mkS rfl))))
  | true =>
    obtain ⟨x, tk, rfl, hx⟩ := hv.isB
    refine call_isinstance_yes (Tx := "bytes") rfl ty_bytes sub_bb (wpAny_truthy_bool ?_)
    exact wpAny_execs_cons (wpAny_Return_some (Constant_bytes (k _ _ _ s₁.keep (.mkB rfl))))

theorem isabs_spec (hw : Wd w h) (hv : Part b v cs) (hroom : A.depth + 2 < recursionLimit) (k : ∀ h' t', h.StaysIn h' → Q (.bool (starts cs)) (St s h' t')) : wpAny (model prog w) A (call (.ref 115) [v]) Q E (St s h t) := by
  refine call_fn hw (f := 115) (binds := [(Str.ofString "s", v)]) rfl rfl (by lia) rfl (by decide) (locs rfl) ?_
  intro L h₁ t₁ E' s₁
  have hw₁ := hw.mono s₁.keep
  refine wpAny_execs_cons (wpAny_Assign_Name (wpAny_Call_ofName (ev_glob hw₁ rfl (cw_fn (sp1 (ev_local s₁ rfl ⟨⟨hw₁.K _ _ rfl, rfl⟩, ?_⟩))))))
  refine fspath_spec hw₁ hv (by simp only [depth_deeper]; lia) fun h₂ t₂ k₂ => st_local (s₁.stays k₂) fun h₃ s₃ => ?_
  have hw₃ := hw.mono s₃.keep
  refine wpAny_execs_cons (wpAny_Assign_Name (wpAny_Call_ofName (ev_glob hw₃ rfl (cw_fn (sp1 (ev_local s₃ rfl ⟨⟨hw₃.K _ _ rfl, rfl⟩, ?_⟩))))))
  refine getsep_spec hw₃ hv (by simp only [depth_deeper]; lia) fun r h₄ t₄ k₄ hr => st_local (s₃.stays k₄) fun h₅ s₅ => ?_
  refine wpAny_execs_cons (wpAny_Return_some (ev_starts (b := b) (ev_local s₅ rfl ⟨cs, hv, ev_local s₅ rfl ⟨hr, ?_⟩⟩)))
  exact k _ _ s₅.keep
end
end Mine35
end

-- part Loop35
section
set_option maxRecDepth 100000
set_option maxHeartbeats 2000000
set_option linter.unusedVariables false
namespace Mine35
open PySem PySem.W PySem.Calls PyProof.Rows

section
variable {prog : Program} {w : World} {A : Around} {E : Value → Shared → Prop} {s : Shared} {env : Env} {x : Str} {px : Pos} {body : List Stmt} {L I : Addr} {fp : List Addr} {n : Nat} {P : Nat → Value → Prop} {StI : Nat → Heap → Prop}

/-- what a turn leaves -/
def Turned (s : Shared) (L I : Addr) (oI : Obj) (g : Heap) (J : Heap → (Str → Option Value) → List (Addr × Obj) → Prop) (R : Flow → Shared → Prop) (f : Flow) (s' : Shared) : Prop :=
  match f with
  | .brk => R .next s'
  | .ret v => R (.ret v) s'
  | _ => ∃ g' h' t' m' mu', s' = St s h' t' ∧ g.StaysIn g' ∧ J g' m' mu' ∧ S g' h' L m' ((I, oI) :: mu')

theorem turned {L I : Addr} {oI : Obj} {g g' h' : Heap} {J : Heap → (Str → Option Value) → List (Addr × Obj) → Prop} {R : Flow → Shared → Prop} {t' : Nat} {m' : Str → Option Value} {mu' : List (Addr × Obj)}
    (sS : S g' h' L m' ((I, oI) :: mu')) (gk : g.StaysIn g') (hj : J g' m' mu') : Turned s L I oI g J R .next (St s h' t') := ⟨g', h', t', m', mu', rfl, gk, hj, sS⟩

theorem for_S {R : Flow → Shared → Prop} {X : Value → Shared → Prop} {g₀ h₀ : Heap} {t₀ : Nat} {m₀ : Str → Option Value} {mu₀ : List (Addr × Obj)} {oI₀ : Obj}
    (J : Nat → Heap → (Str → Option Value) → List (Addr × Obj) → Prop)
    (W : Walks prog w A I fp [I] n P StI) (hIo : ∀ i h, StI i h → ∃ o, h.get? I = some o)
    (hsrc : ∀ i (h h' : Heap) o, StI i h → h.get? I = some o → h'.get? I = some o → g₀.StaysIn h' → StI i h')
    (hst : StI 0 h₀) (s₀ : S g₀ h₀ L m₀ ((I, oI₀) :: mu₀)) (j₀ : J 0 g₀ m₀ mu₀)
    (turn : ∀ i v g h t m mu oI E', i < n → P i v → g₀.StaysIn g → J i g m mu → S g h L (fun y => if y = x then some v else m y) ((I, oI) :: mu) →
      wpAny (model prog w) A (execs body env) (Turned s L I oI g (J (i + 1)) R) E' (St s h t))
    (done : ∀ g h t m mu, g₀.StaysIn g → J n g m mu → S g h L m mu → R .next (St s h t))
    (hL : env.locals = L := by rfl) (hk : env.scope.kind = .function := by rfl) (hl : env.kindOf x = some .local := by rfl) :
    codeAny (model prog w) A (.forLoop (.Name x px) (.ref I) body [] env) (fun r s' => match r with | .ok f => R f s' | .error e => X e s') (St s h₀ t₀) := by
  refine codeAny_forLoop (fun n' s' => ∃ i g h t m mu oI, s' = St s h t ∧ i ≤ n ∧ n' = n + 1 - i ∧ StI i h ∧ g₀.StaysIn g ∧ J i g m mu ∧ S g h L m ((I, oI) :: mu)) ?_ (n + 1)
    ⟨0, g₀, h₀, t₀, m₀, mu₀, oI₀, rfl, Nat.zero_le _, rfl, hst, stays_refl _, j₀, s₀⟩
  rintro n' s' ⟨i, g, h, t, m, mu, oI, rfl, hi, rfl, hst', gk, j, sS⟩
  have hIL : I ≠ L := (sS.off (I, oI) (.head _)).2
  have gI : g.get? I = none := (sS.off (I, oI) (.head _)).1
  have hmuI : ∀ p ∈ mu, p.1 ≠ I := fun p hp q => (List.nodup_cons.mp sS.nd).1 (List.mem_map.mpr ⟨p, hp, q⟩)
  by_cases hlt : i < n
  · refine W.item i (St s h t) _ _ hlt hst' fun v h₁ t₁ hP hst₁ hk₁ => ?_
    obtain ⟨oI', eI'⟩ := hIo _ _ hst₁
    have hkI : ∀ b o, b ≠ I → h.get? b = some o → h₁.get? b = some o := fun b o hb e => hk₁ b o (by simpa using hb) e
    have s₁ : S g h₁ L m ((I, oI') :: mu) := by
      refine ⟨fun b o e => hkI b o (fun q => by rw [q, gI] at e; cases e) (sS.keep b o e), ?_, sS.gL, ?_, ?_, sS.nd⟩
      · exact sS.ns.at' fun o e => hkI L o (Ne.symm hIL) e
      · intro p hp
        rcases List.mem_cons.mp hp with rfl | hp
        · exact eI'
        · exact hkI _ _ (hmuI p hp) (sS.has p (.tail _ hp))
      · intro p hp
        rcases List.mem_cons.mp hp with rfl | hp
        · exact ⟨gI, hIL⟩
        · exact sS.off p (.tail _ hp)
    refine wpAny_assign_Name (st_local (t := t₁) s₁ (fun h₂ s₂ => ?_) hL hk hl)
    refine wpAny_mono (turn i v g h₂ _ m mu oI' _ hlt hP gk j s₂) (fun f s₃ q => ?_) fun _ _ e => e
    have fin : (∃ g' h' t' m' mu', s₃ = St s h' t' ∧ g.StaysIn g' ∧ J (i + 1) g' m' mu' ∧ S g' h' L m' ((I, oI') :: mu')) →
        ∃ m_1, m_1 < n + 1 - i ∧ ∃ i g h t m mu oI, s₃ = St s h t ∧ i ≤ n ∧ m_1 = n + 1 - i ∧ StI i h ∧ g₀.StaysIn g ∧ J i g m mu ∧ S g h L m ((I, oI) :: mu) := by
      rintro ⟨g', h', t', m', mu', rfl, gg, j', s''⟩
      refine ⟨n + 1 - (i + 1), by lia, i + 1, g', h', t', m', mu', oI', rfl, hlt, rfl, ?_, stays_trans gk gg, j', s''⟩
      exact hsrc (i + 1) h₁ h' oI' hst₁ eI' (s''.has _ (.head _)) (stays_trans (stays_trans gk gg) s''.keep)
    cases f with
    | next => exact fin q
    | cont => exact fin q
    | brk => exact q
    | ret v => exact q
  · obtain rfl : i = n := Nat.le_antisymm hi (Nat.not_lt.mp hlt)
    refine W.done (St s h t) _ _ hst' fun h₁ t₁ hk₁ => wpAny_execs_nil ?_
    have hkI : ∀ b o, b ≠ I → h.get? b = some o → h₁.get? b = some o := fun b o hb e => hk₁ b o (by simpa using hb) e
    refine done g h₁ t₁ m mu gk j ?_
    refine ⟨fun b o e => hkI b o (fun q => by rw [q, gI] at e; cases e) (sS.keep b o e), sS.ns.at' fun o e => hkI L o (Ne.symm hIL) e, sS.gL, fun p hp => hkI _ _ (hmuI p hp) (sS.has p (.tail _ hp)), fun p hp => sS.off p (.tail _ hp), (List.nodup_cons.mp sS.nd).2⟩
end

section
variable {prog : Program} {w : World} {A : Around} {E : Value → Shared → Prop} {s : Shared} {env : Env} {x : Str} {px : Pos} {body : List Stmt} {L : Addr} {Q : Flow → Shared → Prop} {g h : Heap} {t : Nat} {m : Str → Option Value} {mu : List (Addr × Obj)}

theorem push_get (h : Heap) (o : Obj) (hf : o.isFreed = false := by rfl) : (h.push o).get? h.objs.size = some o := Heap.get?_push_size _ hf
theorem size_none (h : Heap) : h.get? h.objs.size = none := Heap.get?_none_of_le (Nat.le_refl _)

/-- a for over range(a, b), behind the range's making -/
theorem for_range {r : Addr} {a b : Int} {t₁ t₂ t₃ : Tok} {n : Nat} {X : Value → Shared → Prop} (J : Nat → Heap → (Str → Option Value) → List (Addr × Obj) → Prop) (hh : A.handled = none)
    (hr : IsRange h r a b 1 t₁ t₂ t₃) (hn : Builtin.Range.rangeSize a b 1 = (n : Int)) (hsm : Builtin.Range.small a b 1 = true) (s₀ : S g h L m mu) (j₀ : J 0 g m mu)
    (turn : ∀ i tk g' h' t' m' mu' I oI E', i < n → g.StaysIn g' → J i g' m' mu' → S g' h' L (fun y => if y = x then some (.int (a + (i : Int)) tk) else m' y) ((I, oI) :: mu') →
      wpAny (model prog w) A (execs body env) (Turned s L I oI g' (J (i + 1)) Q) E' (St s h' t'))
    (done : ∀ g' h' t' m' mu', g.StaysIn g' → J n g' m' mu' → S g' h' L m' mu' → Q .next (St s h' t'))
    (hL : env.locals = L := by rfl) (hk : env.scope.kind = .function := by rfl) (hl : env.kindOf x = some .local := by rfl) :
    wpAny (model prog w) A (pyIter (.ref r)) (fun it s₂ => codeAny (model prog w) A (.forLoop (.Name x px) it body [] env) (fun r s' => match r with | .ok f => Q f s' | .error e => X e s') s₂) E (St s h t) := by
  refine wpAny_pyIter_range hr hsm ?_
  refine for_S (s := s) (h₀ := h.push _) J (LCg.range_walks hh a n) (fun i h st => ⟨_, st⟩) (fun i h h' o st e e' _ => ?_) ?_ (s₀.new (stays_push _ _) (size_none h) (push_get _ _)) j₀ ?_ done hL hk hl
  · have st' : h.get? _ = some _ := st
    show h'.get? _ = some _
    rw [e', ← e]; exact st'
  · show (h.push _).get? _ = some _
    rw [hn]
    simpa using push_get h _
  · rintro i v g' h' t' m' mu' oI E' hi ⟨tk, rfl⟩ gk j sS
    exact turn i tk g' h' t' m' mu' _ oI E' hi gk j sS

theorem for_list {l : Addr} {vs : List Value} {X : Value → Shared → Prop} (J : Nat → Heap → (Str → Option Value) → List (Addr × Obj) → Prop) (hh : A.handled = none)
    (hl' : g.IsList l vs.toArray) (s₀ : S g h L m mu) (j₀ : J 0 g m mu)
    (turn : ∀ i v g' h' t' m' mu' I oI E', vs[i]? = some v → g.StaysIn g' → J i g' m' mu' → S g' h' L (fun y => if y = x then some v else m' y) ((I, oI) :: mu') →
      wpAny (model prog w) A (execs body env) (Turned s L I oI g' (J (i + 1)) Q) E' (St s h' t'))
    (done : ∀ g' h' t' m' mu', g.StaysIn g' → J vs.length g' m' mu' → S g' h' L m' mu' → Q .next (St s h' t'))
    (hL : env.locals = L := by rfl) (hk : env.scope.kind = .function := by rfl) (hl : env.kindOf x = some .local := by rfl) :
    wpAny (model prog w) A (pyIter (.ref l)) (fun it s₂ => codeAny (model prog w) A (.forLoop (.Name x px) it body [] env) (fun r s' => match r with | .ok f => Q f s' | .error e => X e s') s₂) E (St s h t) := by
  have hls : h.IsList l vs.toArray := hl'.at fun o e => s₀.keep l o e
  refine wpAny_pyIter_list (s := St s h t) hls ?_
  have hne : l ≠ h.objs.size := by obtain ⟨o, e, _⟩ := hls; exact Nat.ne_of_lt (Heap.lt_size e)
  have W : Walks prog w A h.objs.size [h.objs.size, l] [h.objs.size] vs.length (fun i v => vs.toArray[i]? = some v) (fun i h' => h'.IsListIter h.objs.size l i ∧ h'.IsList l vs.toArray) := Walks.list hh h.objs.size l hne vs.toArray
  refine for_S (s := s) (h₀ := h.push _) J W (fun i h st => let ⟨o, e, _⟩ := st.1; ⟨o, e⟩) (fun i h h' o st e e' gk => ?_) ?_ (s₀.new (stays_push _ _) (size_none h) (push_get _ _)) j₀ ?_ done hL hk hl
  · obtain ⟨⟨o', q, r⟩, _⟩ := st
    rw [e] at q; cases q
    exact ⟨⟨o, e', r⟩, hl'.at fun o e => gk l o e⟩
  · exact ⟨⟨_, push_get _ _, rfl, rfl⟩, hls.at fun o e => stays_push _ _ _ _ e⟩
  · rintro i v g' h' t' m' mu' oI E' hi hP gk j sS
    exact turn i v g' h' t' m' mu' _ oI E' (by simpa using hP) gk j sS

theorem for_tuple {l : Addr} {vs : List Value} {X : Value → Shared → Prop} (J : Nat → Heap → (Str → Option Value) → List (Addr × Obj) → Prop) (hh : A.handled = none)
    (hl' : g.IsTuple l vs.toArray) (s₀ : S g h L m mu) (j₀ : J 0 g m mu)
    (turn : ∀ i v g' h' t' m' mu' I oI E', vs[i]? = some v → g.StaysIn g' → J i g' m' mu' → S g' h' L (fun y => if y = x then some v else m' y) ((I, oI) :: mu') →
      wpAny (model prog w) A (execs body env) (Turned s L I oI g' (J (i + 1)) Q) E' (St s h' t'))
    (done : ∀ g' h' t' m' mu', g.StaysIn g' → J vs.length g' m' mu' → S g' h' L m' mu' → Q .next (St s h' t'))
    (hL : env.locals = L := by rfl) (hk : env.scope.kind = .function := by rfl) (hl : env.kindOf x = some .local := by rfl) :
    wpAny (model prog w) A (pyIter (.ref l)) (fun it s₂ => codeAny (model prog w) A (.forLoop (.Name x px) it body [] env) (fun r s' => match r with | .ok f => Q f s' | .error e => X e s') s₂) E (St s h t) := by
  have hls : h.IsTuple l vs.toArray := by obtain ⟨o, e, r⟩ := hl'; exact ⟨o, s₀.keep _ _ e, r⟩
  refine wpAny_pyIter_tuple (s := St s h t) hls ?_
  have hne : l ≠ h.objs.size := by obtain ⟨o, e, _⟩ := hls; exact Nat.ne_of_lt (Heap.lt_size e)
  have W : Walks prog w A h.objs.size [h.objs.size, l] [h.objs.size] vs.length (fun i v => vs.toArray[i]? = some v) (fun i h' => h'.IsTupleIter h.objs.size l i ∧ h'.IsTuple l vs.toArray) := Walks.tuple hh h.objs.size l hne vs.toArray
  refine for_S (s := s) (h₀ := h.push _) J W (fun i h st => let ⟨o, e, _⟩ := st.1; ⟨o, e⟩) (fun i h h' o st e e' gk => ?_) ?_ (s₀.new (stays_push _ _) (size_none h) (push_get _ _)) j₀ ?_ done hL hk hl
  · obtain ⟨⟨o', q, r⟩, _⟩ := st
    rw [e] at q; cases q
    exact ⟨⟨o, e', r⟩, by obtain ⟨o, e, r⟩ := hl'; exact ⟨o, gk _ _ e, r⟩⟩
  · exact ⟨⟨_, push_get _ _, rfl, rfl⟩, by obtain ⟨o, e, r⟩ := hls; exact ⟨o, stays_push _ _ _ _ e, r⟩⟩
  · rintro i v g' h' t' m' mu' oI E' hi hP gk j sS
    exact turn i v g' h' t' m' mu' _ oI E' (by simpa using hP) gk j sS
end
end Mine35
end

-- part Join35
section
set_option maxRecDepth 100000
set_option maxHeartbeats 2000000
set_option linter.unusedVariables false
namespace Mine35
open PySem PySem.W PySem.Calls PyProof.Rows

def PartL (b : Bool) : List Value → List (List Nat) → Prop
  | [], [] => True
  | v :: vs, c :: cs => Part b v c ∧ PartL b vs cs
  | _, _ => False

theorem PartL.length {b : Bool} : ∀ {vs : List Value} {cs : List (List Nat)}, PartL b vs cs → vs.length = cs.length
  | [], [], _ => rfl
  | _ :: _, _ :: _, h => congrArg (· + 1) (PartL.length h.2)
  | [], _ :: _, h => h.elim
  | _ :: _, [], h => h.elim
theorem PartL.get {b : Bool} : ∀ {vs : List Value} {cs : List (List Nat)}, PartL b vs cs → ∀ {i : Nat} {v : Value}, vs[i]? = some v → ∃ c, cs[i]? = some c ∧ Part b v c
  | [], [], _, _, _, e => by simp at e
  | v :: vs, c :: cs, h, 0, _, e => by cases e; exact ⟨c, rfl, h.1⟩
  | v :: vs, c :: cs, h, i + 1, _, e => PartL.get h.2 (by simpa using e)
  | [], _ :: _, h, _, _, _ => h.elim
  | _ :: _, [], h, _, _, _ => h.elim
theorem PartL.append {b : Bool} : ∀ {vs vs' : List Value} {cs cs' : List (List Nat)}, PartL b vs cs → PartL b vs' cs' → PartL b (vs ++ vs') (cs ++ cs')
  | [], _, [], _, _, h' => h'
  | _ :: _, _, _ :: _, _, h, h' => ⟨h.1, PartL.append h.2 h'⟩
  | [], _, _ :: _, _, h, _ => h.elim
  | _ :: _, _, [], _, h, _ => h.elim
theorem PartL.take {b : Bool} : ∀ {vs : List Value} {cs : List (List Nat)} (n : Nat), PartL b vs cs → PartL b (vs.take n) (cs.take n)
  | _, _, 0, _ => by simp [PartL]
  | [], [], _ + 1, _ => trivial
  | _ :: _, _ :: _, n + 1, h => ⟨h.1, PartL.take n h.2⟩
  | [], _ :: _, _ + 1, h => h.elim
  | _ :: _, [], _ + 1, h => h.elim
theorem PartL.snoc {b : Bool} {vs : List Value} {v : Value} {cs : List (List Nat)} {c : List Nat} (h : PartL b vs cs) (h' : Part b v c) : PartL b (vs ++ [v]) (cs ++ [c]) := h.append ⟨h', trivial⟩

def joinStep (path b : List Nat) : List Nat := if (starts b || path.isEmpty) = true then b else if ends path = true then path ++ b else path ++ (47 :: b)
def joinL (a : List Nat) (ps : List (List Nat)) : List Nat := ps.foldl joinStep a
theorem joinL_snoc (a : List Nat) (ps : List (List Nat)) (p : List Nat) : joinL a (ps ++ [p]) = joinStep (joinL a ps) p := by simp [joinL]
theorem joinStep_len {a p : List Nat} (h : p.length ≤ 100) : (joinStep a p).length ≤ a.length + 101 := by
  unfold joinStep; split
  · lia
  · split <;> simp <;> lia
theorem joinL_len : ∀ (ps : List (List Nat)) (a : List Nat), (∀ p ∈ ps, p.length ≤ 100) → (joinL a ps).length ≤ a.length + 101 * ps.length
  | [], a, _ => by simp [joinL]
  | p :: ps, a, h => by
    have h1 := joinL_len ps (joinStep a p) fun q hq => h q (.tail _ hq)
    have h2 := joinStep_len (a := a) (h p (.head _))
    show (joinL (joinStep a p) ps).length ≤ _
    rw [List.length_cons]; lia

section
variable {prog : Program} {w : World} {A : Around} {E : Value → Shared → Prop} {s : Shared} {h : Heap} {t : Nat} {b : Bool} {v u : Value} {cs ds : List Nat}

theorem app_cps (x y : Str) : (x ++ y).cps.toList = x.cps.toList ++ y.cps.toList := by simp [Str.cps_append]
theorem lenS {x : Str} {cs : List Nat} (h : x.cps.toList = cs) : x.length = cs.length := by rw [← h]; simp [Str.length]

theorem add_part {Q : Value → Shared → Prop} (hv : Part b v cs) (hu : Part b u ds) (hz : cs.length + ds.length ≤ 16777216) (k : ∀ r t', Part b r (cs ++ ds) → Q r (St s h t')) : wpAny (model prog w) A (binaryOp .Add v u) Q E (St s h t) := by
  cases b with
  | false =>
    obtain ⟨x, t1, rfl, hx⟩ := hv.isS
    obtain ⟨y, t2, rfl, hy⟩ := hu.isS
    exact PyProof.Rows.add_str (fun t' tk => k _ _ (.mkS (by rw [app_cps, hx, hy]))) (by rw [lenS hx, lenS hy, sizeLine_eq]; exact hz)
  | true =>
    obtain ⟨x, t1, rfl, hx⟩ := hv.isB
    obtain ⟨y, t2, rfl, hy⟩ := hu.isB
    refine KBy.add_bytes ?_ fun t' tk => k _ _ (.mkB (by rw [Array.toList_append, List.map_append, hx, hy]))
    rw [← Array.length_toList, ← Array.length_toList, ← List.length_map (f := (·.toNat)), ← List.length_map (f := (·.toNat)) (as := y.toList), hx, hy]; exact hz

theorem no_biadd : typeLookup (.type "bytes") (dunderI "add") = pure none := by rw [typeLookup_type, builtinLookup_eq_fast]; kernel_rfl

theorem iadd_part {Q : Value → Shared → Prop} (hv : Part b v cs) (hu : Part b u ds) (hz : cs.length + ds.length ≤ 16777216) (k : ∀ r t', Part b r (cs ++ ds) → Q r (St s h t')) : wpAny (model prog w) A (inplaceOp .Add v u) Q E (St s h t) := by
  cases b with
  | false =>
    obtain ⟨x, t1, rfl, hx⟩ := hv.isS
    obtain ⟨y, t2, rfl, hy⟩ := hu.isS
    exact PyProof.Rows.iadd_str (fun t' tk => k _ _ (.mkS (by rw [app_cps, hx, hy]))) (by rw [lenS hx, lenS hy, sizeLine_eq]; exact hz)
  | true =>
    obtain ⟨x, t1, rfl, hx⟩ := hv.isB
    obtain ⟨y, t2, rfl, hy⟩ := hu.isB
    have hsz : x.size + y.size ≤ 16777216 := by
      rw [← Array.length_toList, ← Array.length_toList, ← List.length_map (f := (·.toNat)), ← List.length_map (f := (·.toNat)) (as := y.toList), hx, hy]; exact hz
    refine wpAny_inplaceOp_concat (T := "bytes") (id := "bytes.__add__") rfl rfl no_biadd KBy.noFill_bytes_add KBy.seq_bytes_add ?_
    refine call_gives FB.slot_bytes_add rfl FB.entry_bytes_add (FB.args_bytes_add_2 _ _) (KBy.gives_bytes_add (KBy.tooLong_not hsz)) ?_
    have hfin : ∀ t', Q (.bytes (x ++ y) t') (St s h t) → True := fun _ _ => trivial
    by_cases h1 : x.isEmpty = true
    · rw [if_pos h1]
      have : x = #[] := by simpa using h1
      subst this
      refine k _ t (.mkB ?_)
      rw [← hx, hy]; rfl
    · rw [if_neg h1]
      by_cases h2 : y.isEmpty = true
      · rw [if_pos h2]
        have : y = #[] := by simpa using h2
        subst this
        refine k _ t (.mkB ?_)
        rw [← hy, hx]; simp
      · rw [if_neg h2]
        refine ⟨?_, k _ _ (.mkB (by rw [Array.toList_append, List.map_append, hx, hy]))⟩
        rw [Array.size_append, sizeLine_eq]; exact hsz

theorem truthy_part {Q : Bool → Shared → Prop} (hv : Part b v cs) (hz : cs.length ≤ 16777216) (k : ∀ t', Q (!cs.isEmpty) (St s h t')) : wpAny (model prog w) A (truthy v) Q E (St s h t) := by
  cases b with
  | false =>
    obtain ⟨x, t1, rfl, hx⟩ := hv.isS
    refine P.truthy_str (by rw [lenS hx]; lia) ?_
    have e : ((x.length : Int) != 0) = !cs.isEmpty := by
      rw [lenS hx]; cases cs <;> simp <;> lia
    rw [e]; exact k _
  | true =>
    obtain ⟨x, t1, rfl, hx⟩ := hv.isB
    have hl : x.size = cs.length := by rw [← hx]; simp
    refine truthy_bytes (by rw [hl]; lia) ?_
    have e : ((x.size : Int) != 0) = !cs.isEmpty := by
      rw [hl]; cases cs <;> simp <;> lia
    rw [e]; exact k _

theorem bind_tuple {M : Model} {fd : FuncData} {args : Args} {binds : Value → List (Str × Value)} {ps : List Value} {Q : List (Str × Value) → Shared → Prop} {s : Shared} (he : bindArgs fd args = (newTuple ps >>= fun t => pure (binds t))) (hsz : ps.length ≤ sizeLine)
    (H : Q (binds (.ref s.heap.objs.size)) { s with heap := s.heap.push { cls := .type "tuple", data := .seq ps.toArray } }) : wpAny M A (bindArgs fd args) Q E s := by
  rw [he]
  exact wpAny_bind (wpAny_newTuple (wpAny_pure H) hsz)

theorem join_spec {Q : Value → Shared → Prop} {ps : List Value} {dss : List (List Nat)} (hw : Wd w h) (hv : Part b v cs) (hp : PartL b ps dss) (hc : cs.length ≤ 100) (hd : ∀ d ∈ dss, d.length ≤ 100) (hn : dss.length ≤ 100)
    (hh : A.handled = none) (hroom : A.depth + 2 < recursionLimit) (k : ∀ r h' t', h.StaysIn h' → Part b r (joinL cs dss) → Q r (St s h' t')) : wpAny (model prog w) A (call (.ref 122) (v :: ps)) Q E (St s h t) := by
  refine wpAny_call (codeAny_call_function (s := St s h t) (a := 122) (by lia) (hw.K _ _ rfl) rfl rfl rfl rfl (codeRec_of hw.K rfl) ?_)
  refine bind_tuple (binds := fun t => [(Str.ofString "a", v), (Str.ofString "p", t)]) (ps := ps) (by cases ps <;> rfl) (by rw [hp.length, sizeLine_eq]; lia) ?_
  refine wpAny_newFunctionEnv (by decide) (locs rfl) (fun h₁ hns hsb => ?_) rfl
  have k₁ : (h.push { cls := .type "tuple", data := .seq ps.toArray }).StaysIn h₁ := fun b o e => hsb.extBut b o (Nat.ne_of_lt (Heap.lt_size e)) (stays_push _ _ _ _ e)
  have k₀ : h.StaysIn h₁ := stays_trans (stays_push _ _) k₁
  refine ⟨hw.lim.keeps k₀, codeAny_func ?_⟩
  have s₁ : S (h.push { cls := .type "tuple", data := .seq ps.toArray }) h₁ (h.push { cls := .type "tuple", data := .seq ps.toArray }).objs.size (fun x => [(Str.ofString "a", v), (Str.ofString "p", .ref h.objs.size)].reverse.lookup x) [] :=
    ⟨k₁, hns, size_none _, fun _ hp => (nomatch hp), fun _ hp => (nomatch hp), List.nodup_nil⟩
  have hw₁ := hw.mono k₀
  have hup : h.StaysIn (h.push { cls := .type "tuple", data := .seq ps.toArray }) := stays_push _ _
  refine wpAny_execs_cons (wpAny_Assign_Name (wpAny_Call_ofName (ev_glob hw₁ rfl (cw_fn (sp1 (ev_local s₁ rfl ⟨⟨hw₁.K _ _ rfl, rfl⟩, ?_⟩))))))
  refine fspath_spec hw₁ hv (by simp only [depth_deeper]; lia) fun h₂ t₂ k₂ => st_local (s₁.stays k₂) fun h₃ s₃ => ?_
  have hw₃ := hw.mono (stays_trans hup s₃.keep)
  refine wpAny_execs_cons (wpAny_Assign_Name (wpAny_Call_ofName (ev_glob hw₃ rfl (cw_fn (sp1 (ev_local s₃ rfl ⟨⟨hw₃.K _ _ rfl, rfl⟩, ?_⟩))))))
  refine getsep_spec hw₃ hv (by simp only [depth_deeper]; lia) fun sv h₄ t₄ k₄ hsv => st_local (s₃.stays k₄) fun h₅ s₅ => ?_
  refine wpAny_execs_cons (wpAny_Assign_Name (ev_local s₅ rfl (st_local s₅ fun h₆ s₆ => ?_)))
  refine wpAny_execs_cons (wpAny_Try_except (wpAny_execs_cons (wpAny_For (ev_local s₆ rfl (for_tuple (vs := ps)
    (fun i g m mu => m (Str.ofString "sep") = some sv ∧ ∃ pv, m (Str.ofString "path") = some pv ∧ Part b pv (joinL cs (dss.take i)))
    hh ⟨_, push_get _ _, rfl, _, rfl⟩ s₆ ⟨rfl, v, rfl, hv⟩ ?_ ?_))))) 
  · rintro i bv g' h' t' m' mu' I oI E' hvi gk ⟨hsep, pv, hpath, hpv⟩ sS
    obtain ⟨d, hdi, hbd⟩ := hp.get hvi
    have hwS := hw.mono (stays_trans (stays_trans hup gk) sS.keep)
    have hdl : d.length ≤ 100 := hd d (List.mem_of_getElem? hdi)
    have hil : i < dss.length := (List.getElem?_eq_some_iff.mp hdi).1
    have hjl : (joinL cs (dss.take i)).length ≤ 16777000 := by
      have := joinL_len (dss.take i) cs fun q hq => hd q (List.mem_of_mem_take hq)
      rw [List.length_take] at this; lia
    have htk : dss.take (i + 1) = dss.take i ++ [d] := by rw [List.take_add_one, hdi]; rfl
    refine wpAny_execs_cons (wpAny_Assign_Name (wpAny_Call_ofName (ev_glob hwS rfl (cw_fn (sp1 (ev_local sS rfl ⟨⟨hwS.K _ _ rfl, rfl⟩, ?_⟩))))))
    refine fspath_spec hwS hbd (by simp only [depth_deeper]; lia) fun h₂ t₂ k₂ => st_local (sS.stays k₂) fun h₃ s₃ => ?_
    refine wpAny_execs_cons (wpAny_If (wpAny_isTrue_BoolOp (wpAny_allTrue_Or_cons (isTrue_plain (ev_starts (b := b) (ev_local s₃ rfl ⟨d, hbd, ev_local s₃ hsep ⟨hsv, wpAny_truthy_bool ?_⟩⟩))))))
    have hstep : ∀ {c : List Nat}, joinStep (joinL cs (dss.take i)) d = c → joinL cs (dss.take (i + 1)) = c := fun e => by rw [htk, joinL_snoc, e]
    cases hst : starts d with
    | true =>
      refine wpAny_execs_cons (wpAny_Assign_Name (ev_local s₃ rfl (st_local s₃ fun h₄ s₄ => ?_)))
      refine wpAny_execs_nil (wpAny_execs_nil (turned s₄ (stays_refl _) ⟨hsep, bv, rfl, ?_⟩))
      rw [hstep (c := d) (by unfold joinStep; rw [hst, Bool.true_or, if_pos rfl])]; exact hbd
    | false =>
      refine wpAny_allTrue_Or_cons (wpAny_isTrue_Not (isTrue_plain (ev_local s₃ hpath (truthy_part hpv (by lia) fun t₄ => ?_))))
      cases hem : (joinL cs (dss.take i)).isEmpty with
      | true =>
        refine wpAny_execs_cons (wpAny_Assign_Name (ev_local s₃ rfl (st_local s₃ fun h₄ s₄ => ?_)))
        refine wpAny_execs_nil (wpAny_execs_nil (turned s₄ (stays_refl _) ⟨hsep, bv, rfl, ?_⟩))
        rw [hstep (c := d) (by unfold joinStep; rw [hem, Bool.or_true, if_pos rfl])]; exact hbd
      | false =>
        refine wpAny_allTrue_Or_nil ?_
        refine wpAny_execs_cons (wpAny_If (isTrue_plain (ev_ends (b := b) (ev_local s₃ hpath ⟨_, hpv, ev_local s₃ hsep ⟨hsv, wpAny_truthy_bool ?_⟩⟩))))
        cases hen : ends (joinL cs (dss.take i)) with
        | true =>
          refine wpAny_execs_cons (wpAny_AugAssign_Name (ld_local s₃ hpath (ev_local s₃ rfl (iadd_part hpv hbd (by lia) fun r t₅ hr => st_local s₃ fun h₄ s₄ => ?_))))
          refine wpAny_execs_nil (wpAny_execs_nil (wpAny_execs_nil (turned s₄ (stays_refl _) ⟨hsep, r, rfl, ?_⟩)))
          rw [hstep (c := joinL cs (dss.take i) ++ d) (by unfold joinStep; rw [hst, hem, Bool.or_self, if_neg (by decide), if_pos hen])]; exact hr
        | false =>
          refine wpAny_execs_cons (wpAny_AugAssign_Name (ld_local s₃ hpath (wpAny_BinOp (ev_local s₃ hsep (ev_local s₃ rfl (add_part hsv hbd (by simp; lia) fun r₁ t₅ hr₁ => iadd_part hpv hr₁ (by simp; lia) fun r t₆ hr => st_local s₃ fun h₄ s₄ => ?_))))))
          refine wpAny_execs_nil (wpAny_execs_nil (wpAny_execs_nil (turned s₄ (stays_refl _) ⟨hsep, r, rfl, ?_⟩)))
          rw [hstep (c := joinL cs (dss.take i) ++ (47 :: d)) (by unfold joinStep; rw [hst, hem, Bool.or_self, if_neg (by decide), if_neg (by rw [hen]; decide)])]; exact hr
  · rintro g' h' t' m' mu' gk ⟨hsep, pv, hpath, hpv⟩ sS
    refine wpAny_execs_nil (wpAny_execs_nil ?_)
    refine wpAny_execs_cons (wpAny_Return_some (ev_local sS hpath ?_))
    rw [hp.length, List.take_length] at hpv
    exact k _ _ _ (stays_trans (stays_trans hup gk) sS.keep) hpv
end
end Mine35
end

-- part Comp35
section
set_option maxRecDepth 100000
set_option maxHeartbeats 2000000
set_option linter.unusedVariables false
namespace Mine35
open PySem PySem.W PySem.Calls PyProof.Rows
open PyProof.Rows.LCg (NsObj ns_obj lst lst_snoc)

section
variable {g h h' : Heap} {L C a : Addr} {m m' m₂ : Str → Option Value} {mu pre post : List (Addr × Obj)} {o o' : Obj}

theorem S.upd' (s : S g h L m ((a, o) :: mu)) (k : ∀ b x, b ≠ a → h.get? b = some x → h'.get? b = some x) (e : h'.get? a = some o') : S g h' L m ((a, o') :: mu) := by
  have hne : ∀ p ∈ mu, p.1 ≠ a := fun p hp q => (List.nodup_cons.mp s.nd).1 (List.mem_map.mpr ⟨p, hp, q⟩)
  have oa := s.off (a, o) (.head _)
  refine ⟨fun b x hb => k b x (fun q => by rw [q, oa.1] at hb; cases hb) (s.keep b x hb), s.ns.at' fun o e => k L o (Ne.symm oa.2) e, s.gL, fun p hp => ?_, fun p hp => ?_, s.nd⟩
  · rcases List.mem_cons.mp hp with rfl | hp
    · exact e
    · exact k _ _ (hne p hp) (s.has p (.tail _ hp))
  · rcases List.mem_cons.mp hp with rfl | hp
    · exact oa
    · exact s.off p (.tail _ hp)

theorem S.updM (s : S g h L m (pre ++ (a, o) :: post)) (k : ∀ b x, b ≠ a → h.get? b = some x → h'.get? b = some x) (e : h'.get? a = some o') : S g h' L m (pre ++ (a, o') :: post) :=
  ((s.perm List.perm_middle).upd' k e).perm List.perm_middle.symm

theorem S.enter (s : S g h L m mu) (k : h.StaysIn h') (hC : h.get? C = none) (hn : h'.Ns C m₂) : ∃ oL, NsObj oL m ∧ S g h' C m₂ ((L, oL) :: mu) := by
  obtain ⟨oL, eL, nL⟩ := ns_obj s.ns
  have gC : g.get? C = none := by
    cases q : g.get? C with
    | none => rfl
    | some x => rw [s.keep _ _ q] at hC; cases hC
  refine ⟨oL, nL, stays_trans s.keep k, hn, gC, fun p hp => ?_, fun p hp => ?_, ?_⟩
  · rcases List.mem_cons.mp hp with rfl | hp
    · exact k _ _ eL
    · exact k _ _ (s.has p hp)
  · rcases List.mem_cons.mp hp with rfl | hp
    · exact ⟨s.gL, fun q => by have q' : L = C := q; rw [q', hC] at eL; cases eL⟩
    · exact ⟨(s.off p hp).1, fun q => by have := s.has p hp; rw [q, hC] at this; cases this⟩
  · refine List.nodup_cons.mpr ⟨fun hm => ?_, s.nd⟩
    obtain ⟨p, hp, q⟩ := List.mem_map.mp hm
    exact (s.off p hp).2 q

theorem S.leave {oL : Obj} (s : S g h C m₂ ((L, oL) :: mu)) (n : NsObj oL m) : S g h L m mu :=
  ⟨s.keep, n.ns (s.has _ (.head _)), (s.off (L, oL) (.head _)).1, fun p hp => s.has p (.tail _ hp), fun p hp => ⟨(s.off p (.tail _ hp)).1, fun q => (List.nodup_cons.mp s.nd).1 (List.mem_map.mpr ⟨p, hp, q⟩)⟩, (List.nodup_cons.mp s.nd).2⟩

theorem S.other (s : S g h L m mu) (k : ∀ b x, b ≠ C → h.get? b = some x → h'.get? b = some x) (gC : g.get? C = none) (hL : C ≠ L) (hm : ∀ p ∈ mu, p.1 ≠ C) : S g h' L m mu :=
  ⟨fun b x e => k b x (fun q => by rw [q, gC] at e; cases e) (s.keep b x e), s.ns.at' fun o e => k L o (Ne.symm hL) e, s.gL, fun p hp => k _ _ (hm p hp) (s.has p hp), s.off, s.nd⟩
end

section
variable {prog : Program} {w : World} {A : Around} {E : Value → Shared → Prop} {s : Shared} {env : Env} {x : Str} {px : Pos} {L I : Addr} {fp : List Addr} {n : Nat} {P : Nat → Value → Prop} {StI : Nat → Heap → Prop}

/-- an element's value, the frozen part grown -/
def EltPost (s : Shared) (C : Addr) (g : Heap) (m₂ : Str → Option Value) (MU : List (Addr × Obj)) (R : Value → Heap → Prop) (y : Value) (s' : Shared) : Prop :=
  ∃ g' h' t', s' = St s h' t' ∧ g.StaysIn g' ∧ S g' h' C m₂ MU ∧ R y g'

theorem comp_W {elt iter : Expr} {scope : Scope} {cl : List (Str × Addr)} {pos : Pos} {g h : Heap} {t : Nat} {m : Str → Option Value} {mu : List (Addr × Obj)} {oI : Obj} {RR : Value → Addr → Result → Shared → Prop}
    (R : Nat → Value → Heap → Prop) (hmono : ∀ i y g g', Heap.StaysIn g g' → R i y g → R i y g')
    (W : Walks prog w A I fp [I] n P StI) (hIo : ∀ i h, StI i h → ∃ o, h.get? I = some o)
    (hsrc : ∀ i (h h' : Heap) o, StI i h → h.get? I = some o → h'.get? I = some o → g.StaysIn h' → StI i h')
    (hst : StI 0 h) (hsz : n ≤ sizeLine) (s₀ : S g h L m ((I, oI) :: mu))
    (helt : ∀ i v g' h' t' C m₂ MU E', i < n → P i v → g.StaysIn g' → S g' h' C m₂ MU → m₂ x = some v → (∀ p ∈ mu, p ∈ MU) →
      wpAny (model prog w) A (eval elt (compEnvC scope cl C env)) (EltPost s C g' m₂ MU (R i)) E' (St s h' t'))
    (hRR : ∀ D C g' h' t' ys m', g.StaysIn g' → h'.Ns C m' → ys.length = n → (∀ i y, ys[i]? = some y → R i y g') → S g' h' L m ((D, lst ys) :: mu) → g'.get? C = none → C ≠ L → (∀ p ∈ (D, lst ys) :: mu, p.1 ≠ C) →
      RR (.ref D) C (.ok .next) (St s h' t'))
    (hcell : ∀ y ∈ scope.names, y.2 ≠ .cell) (hkind : scope.kind = .function) (hx : scope.names.lookup x = some .local) :
    wpAny (model prog w) A (newList []) (fun acc s₃ => wpAny (model prog w) A (newFunctionEnv scope env.globals cl [] env.qual none .none (some env)) (fun cenv s₄ =>
      codeAny (model prog w) A (.compStart (.ListComp elt [⟨.Name x px, iter, [], 0⟩] scope pos) 0 (.ref I) acc { cenv with scope := relabel scope env }) (RR acc cenv.locals) s₄) E s₃) E (St s h t) := by
  refine wpAny_newObj_type (wpAny_newFunctionEnv hcell (by intro y hy; simp at hy) (fun h₃ hns₃ hsb₃ => ?_) hkind)
  dsimp only at hns₃ hsb₃ ⊢
  have sD : S g (h.push (lst [])) L m ((h.objs.size, lst []) :: (I, oI) :: mu) := s₀.new (stays_push _ _) (size_none h) (push_get _ _)
  have kC : (h.push (lst [])).StaysIn h₃ := fun b o e => hsb₃.extBut b o (Nat.ne_of_lt (Heap.lt_size e)) (stays_push _ _ _ _ e)
  obtain ⟨oL, nL, s₃⟩ := sD.enter kC (size_none _) hns₃
  generalize hCe : (h.push (lst [])).objs.size = C at s₃ hns₃ hsb₃ kC ⊢
  generalize hDe : h.objs.size = D at s₃ sD ⊢
  have hst₃ : StI 0 h₃ := hsrc 0 h h₃ oI hst (s₀.has _ (.head _)) (s₃.has (I, oI) (by simp)) s₃.keep
  have loop : ∀ s' : Shared, s' = { s with heap := h₃, toks := t + ([] : List (Str × Value)).length } →
      codeAny (model prog w) A (.compLoop (.ListComp elt [⟨.Name x px, iter, [], 0⟩] scope pos) 0 (.ref I) (.ref D) (compEnvC scope cl C env)) (RR (.ref D) C) s' := by
    rintro s' rfl
    refine codeAny_compLoop_tests (fun n' s' => ∃ i g' h' t' m₂ ys oI, s' = St s h' t' ∧ i ≤ n ∧ n' = n + 1 - i ∧ StI i h' ∧ g.StaysIn g' ∧ ys.length = i ∧ (∀ j y, ys[j]? = some y → R j y g') ∧ S g' h' C m₂ ((L, oL) :: (D, lst ys) :: (I, oI) :: mu)) ?_ (n + 1)
      ⟨0, g, h₃, _, _, [], oI, rfl, Nat.zero_le _, rfl, hst₃, stays_refl _, rfl, fun j y e => by simp at e, s₃⟩
    rintro n' s' ⟨i, g', h', t', m₂, ys, oI', rfl, hi, rfl, hst', gk, hyl, hR, sS⟩
    by_cases hlt : i < n
    · refine W.item i (St s h' t') _ _ hlt hst' fun v h₁ t₁ hP hst₁ hk₁ => ?_
      obtain ⟨oI₂, eI₂⟩ := hIo _ _ hst₁
      have s₁ : S g' h₁ C m₂ ((L, oL) :: (D, lst ys) :: (I, oI₂) :: mu) :=
        S.updM (pre := [(L, oL), (D, lst ys)]) sS (fun b o hb e => hk₁ b o (by simpa using hb) e) eI₂
      refine wpAny_assign_Name (st_local (t := t₁) s₁ (fun h₂ s₂ => ?_) rfl hkind (lookup_relabel_local hx))
      refine wpAny_tests_nil ?_
      simp only [if_true]
      refine wpAny_mono (helt i v g' h₂ _ C _ _ _ hlt hP gk s₂ (by simp) (fun p hp => by simp [hp])) (fun y s₄ q => ?_) fun _ _ e => e
      obtain ⟨g₄, h₄, t₄, rfl, gk₄, s₄, hRy⟩ := q
      refine append_at (s := St s h₄ t₄) (s₄.has (D, lst ys) (by simp)) (fun h₅ hs₅ hD₅ => ?_) (hsz := by show ys.toArray.size ≤ sizeLine; rw [List.size_toArray, hyl]; lia)
      have s₅ := S.updM (pre := [(L, oL)]) s₄ (fun b o hb e => hs₅.extBut b o hb e) (hD₅.trans (congrArg some (lst_snoc ys y)))
      refine ⟨n + 1 - (i + 1), by lia, i + 1, g₄, h₅, t₄, (fun y => if y = x then some v else m₂ y), ys ++ [y], oI₂, rfl, hlt, rfl, ?_, stays_trans gk gk₄, by simp [hyl], ?_, s₅⟩
      · exact hsrc (i + 1) h₁ h₅ oI₂ hst₁ eI₂ (s₅.has (I, oI₂) (by simp)) (stays_trans (stays_trans gk gk₄) s₅.keep)
      · intro j y' e
        rcases Nat.lt_or_ge j ys.length with hj | hj
        · rw [List.getElem?_append_left hj] at e
          exact hmono _ _ _ _ gk₄ (hR j y' e)
        · rw [List.getElem?_append_right hj] at e
          have hj0 : j - ys.length = 0 := by
            rcases Nat.eq_zero_or_pos (j - ys.length) with q | q
            · exact q
            · rw [List.getElem?_eq_none (by simp only [List.length_singleton]; lia)] at e; cases e
          rw [hj0] at e
          cases e
          have : j = i := by lia
          subst this; exact hRy
    · obtain rfl : i = n := Nat.le_antisymm hi (Nat.not_lt.mp hlt)
      refine W.done (St s h' t') _ _ hst' fun h₁ t₁ hk₁ => ?_
      have s₁ : S g' h₁ C m₂ ((L, oL) :: (D, lst ys) :: mu) := by
        have s' : S g' h' C m₂ ((L, oL) :: (D, lst ys) :: mu) := sS.sub (by simp)
        have nd := sS.nd
        simp only [List.map_cons, List.nodup_cons, List.mem_cons, not_or] at nd
        refine s'.other (C := I) (fun b o hb e => hk₁ b o (by simpa using hb) e) (sS.off (I, oI') (by simp)).1 (sS.off (I, oI') (by simp)).2 fun p hp => ?_
        simp only [List.mem_cons] at hp
        rcases hp with rfl | rfl | hp
        · exact nd.1.2.1
        · exact nd.2.1.1
        · exact fun q => nd.2.2.1 (List.mem_map.mpr ⟨p, hp, q⟩)
      refine hRR D C g' h₁ t₁ ys m₂ gk s₁.ns hyl hR (s₁.leave nL) s₁.gL (Ne.symm (s₁.off (L, oL) (.head _)).2) fun p hp => (s₁.off p (.tail _ hp)).2
  exact codeAny_compStart_list (loop _ rfl) (W.self 0 _ _ _ hst₃ (loop _ rfl))

/-- the source of a comprehension: a frozen list, and what each element and the end ask -/
structure CompL (prog : Program) (w : World) (A : Around) (s : Shared) (env : Env) (L : Addr) (m : Str → Option Value) (elt : Expr) (x : Str) (scope : Scope) (cl : List (Str × Addr)) (Fin : Value → Heap → Nat → Heap → List (Addr × Obj) → Addr → List Value → Prop) (xv : Value) (s₁ : Shared) : Prop where
  mk' ::
  all : ∃ (g h : Heap) (t : Nat) (mu : List (Addr × Obj)) (ax : Addr) (vs : List Value) (R : Nat → Value → Heap → Prop), s₁ = St s h t ∧ xv = .ref ax ∧ A.handled = none ∧ S g h L m mu ∧ g.IsList ax vs.toArray ∧ vs.length ≤ sizeLine ∧
    (∀ i y g g', Heap.StaysIn g g' → R i y g → R i y g') ∧
    (∀ i v g' h' t' C m₂ MU E', vs[i]? = some v → g.StaysIn g' → S g' h' C m₂ MU → m₂ x = some v → (∀ p ∈ mu, p ∈ MU) →
      wpAny (model prog w) A (eval elt (compEnvC scope cl C env)) (EltPost s C g' m₂ MU (R i)) E' (St s h' t')) ∧
    (∀ D g' h' t' ys, g.StaysIn g' → ys.length = vs.length → (∀ i y, ys[i]? = some y → R i y g') → S g' h' L m ((D, lst ys) :: mu) → Fin (.ref D) h' t' g' mu D ys)

theorem CompL.of {elt : Expr} {scope : Scope} {cl : List (Str × Addr)} {Fin : Value → Heap → Nat → Heap → List (Addr × Obj) → Addr → List Value → Prop} {g h : Heap} {t : Nat} {m : Str → Option Value} {mu : List (Addr × Obj)} {ax : Addr} {vs : List Value}
    (R : Nat → Value → Heap → Prop) (hh : A.handled = none) (s₀ : S g h L m mu) (hl : g.IsList ax vs.toArray) (hz : vs.length ≤ sizeLine) (hmono : ∀ i y g g', Heap.StaysIn g g' → R i y g → R i y g')
    (helt : ∀ i v g' h' t' C m₂ MU E', vs[i]? = some v → g.StaysIn g' → S g' h' C m₂ MU → m₂ x = some v → (∀ p ∈ mu, p ∈ MU) →
      wpAny (model prog w) A (eval elt (compEnvC scope cl C env)) (EltPost s C g' m₂ MU (R i)) E' (St s h' t'))
    (hfin : ∀ D g' h' t' ys, g.StaysIn g' → ys.length = vs.length → (∀ i y, ys[i]? = some y → R i y g') → S g' h' L m ((D, lst ys) :: mu) → Fin (.ref D) h' t' g' mu D ys) :
    CompL prog w A s env L m elt x scope cl Fin (.ref ax) (St s h t) := ⟨g, h, t, mu, ax, vs, R, rfl, rfl, hh, s₀, hl, hz, hmono, helt, hfin⟩

theorem list_prep {g h : Heap} {l : Addr} {vs : List Value} (hh : A.handled = none) (hls : h.IsList l vs.toArray) :
    Walks prog w A h.objs.size [h.objs.size, l] [h.objs.size] vs.length (fun i v => vs.toArray[i]? = some v) (fun i h' => h'.IsListIter h.objs.size l i ∧ h'.IsList l vs.toArray) :=
  Walks.list hh h.objs.size l (by obtain ⟨o, e, _⟩ := hls; exact Nat.ne_of_lt (Heap.lt_size e)) vs.toArray

theorem ev_comp {elt iter : Expr} {scope : Scope} {cl : List (Str × Addr)} {pos : Pos} {m : Str → Option Value} {Q : Value → Shared → Prop} {s₀ : Shared}
    (H : wpAny (model prog w) A (eval iter env) (CompL prog w A s env L m elt x scope cl (fun v h' t' _ _ _ _ => Q v (St s h' t'))) E s₀)
    (hclos : closureFor scope env = pure cl := by rfl) (hcell : ∀ y ∈ scope.names, y.2 ≠ .cell := by decide) (hkind : scope.kind = .function := by rfl)
    (hnames : ∀ y ∈ scope.names, y.2 = .local → scope.names.lookup y.1 = some .local := by decide) (hx : scope.names.lookup x = some .local := by rfl)
    (hs : ∀ x, foldedSetIterable iter env x = pure x := by intro _; rfl) :
    wpAny (model prog w) A (eval (.ListComp elt [⟨.Name x px, iter, [], 0⟩] scope pos) env) Q E s₀ := by
  rw [eval_ListComp]
  refine wpAny_comprehension_free (use := none) rfl hs hclos hkind hnames (wpAny_mono H (fun xv s₁ h₁ => ?_) fun _ _ e => e)
  obtain ⟨g, h, t, mu, ax, vs, R, rfl, rfl, hh, sS, hl, hz, hmono, helt, hfin⟩ := h₁.all
  have hls : h.IsList ax vs.toArray := hl.at fun o e => sS.keep ax o e
  refine wpAny_pyIter_list (s := St s h t) hls ?_
  refine comp_W (s := s) (g := g) (h := h.push _) (mu := mu) R hmono (list_prep (g := g) hh hls) (fun i h st => let ⟨o, e, _⟩ := st.1; ⟨o, e⟩) (fun i h h' o st e e' gk => ?_) ?_ hz (sS.new (stays_push _ _) (size_none h) (push_get _ _))
    (fun i v g' h' t' C m₂ MU E' hi hP => helt i v g' h' t' C m₂ MU E' (by simpa using hP)) ?_ hcell hkind hx
  · obtain ⟨⟨o', q, r⟩, _⟩ := st
    rw [e] at q; cases q
    exact ⟨⟨o, e', r⟩, hl.at fun o e => gk ax o e⟩
  · exact ⟨⟨_, push_get _ _, rfl, rfl⟩, hls.at fun o e => stays_push _ _ _ _ e⟩
  · intro D C g' h' t' ys m' gk hn hyl hR s₁ gC hCL hoff
    refine ⟨m', hn, fun h'' hs'' => hfin D g' h'' t' ys gk hyl hR (s₁.other (C := C) (fun b o hb e => hs''.extBut b o hb e) gC hCL hoff)⟩

/-- «y = [..]»: the list is bound ahead of the comprehension's own names' end -/
theorem as_comp {elt iter : Expr} {scope : Scope} {cl : List (Str × Addr)} {pos spos : Pos} {y : Str} {py : Pos} {m : Str → Option Value} {Q : Flow → Shared → Prop} {s₀ : Shared}
    (H : wpAny (model prog w) A (eval iter env) (CompL prog w A s env L m elt x scope cl (fun v h' t' g' mu D ys => ∀ h'' t'', S g' h'' L (fun z => if z = y then some (.ref D) else m z) ((D, lst ys) :: mu) → Q .next (St s h'' t''))) E s₀)
    (hsw : swapsWith (.ListComp elt [⟨.Name x px, iter, [], 0⟩] scope pos) (some (.Name y py)) spos.line env = pure true := by rfl)
    (hclos : closureFor scope env = pure cl := by rfl) (hcell : ∀ y ∈ scope.names, y.2 ≠ .cell := by decide) (hkind : scope.kind = .function := by rfl)
    (hnames : ∀ y ∈ scope.names, y.2 = .local → scope.names.lookup y.1 = some .local := by decide) (hx : scope.names.lookup x = some .local := by rfl)
    (hL : env.locals = L := by rfl) (hk : env.scope.kind = .function := by rfl) (hy : env.kindOf y = some .local := by rfl)
    (hs : ∀ x, foldedSetIterable iter env x = pure x := by intro _; rfl) :
    wpAny (model prog w) A (exec (.Assign [.Name y py] (.ListComp elt [⟨.Name x px, iter, [], 0⟩] scope pos) spos) env) Q E s₀ := by
  rw [exec_Assign_Name_used _ _ _ _ hsw]
  refine wpAny_bind (wpAny_standAt (wpAny_bind ?_))
  show wpAny _ A (do let _ ← comprehension (.ListComp elt [⟨.Name x px, iter, [], 0⟩] scope pos) scope env _ (newList []) false (eval iter env) (some (assign (.Name y py) env))) _ _ s₀
  refine wpAny_bind (wpAny_mono (wpAny_comprehension_free (use := some (assign (.Name y py) env)) (Q := fun _ s' => Q .next s') rfl hs hclos hkind hnames
    (wpAny_mono H (fun xv s₁ h₁ => ?_) fun _ _ e => e)) (fun _ s' hq => wpAny_pure (wpAny_pure hq)) fun _ _ e => e)
  obtain ⟨g, h, t, mu, ax, vs, R, rfl, rfl, hh, sS, hl, hz, hmono, helt, hfin⟩ := h₁.all
  have hls : h.IsList ax vs.toArray := hl.at fun o e => sS.keep ax o e
  refine wpAny_pyIter_list (s := St s h t) hls ?_
  refine comp_W (s := s) (g := g) (h := h.push _) (mu := mu) R hmono (list_prep (g := g) hh hls) (fun i h st => let ⟨o, e, _⟩ := st.1; ⟨o, e⟩) (fun i h h' o st e e' gk => ?_) ?_ hz (sS.new (stays_push _ _) (size_none h) (push_get _ _))
    (fun i v g' h' t' C m₂ MU E' hi hP => helt i v g' h' t' C m₂ MU E' (by simpa using hP)) ?_ hcell hkind hx
  · obtain ⟨⟨o', q, r⟩, _⟩ := st
    rw [e] at q; cases q
    exact ⟨⟨o, e', r⟩, hl.at fun o e => gk ax o e⟩
  · exact ⟨⟨_, push_get _ _, rfl, rfl⟩, hls.at fun o e => stays_push _ _ _ _ e⟩
  · intro D C g' h' t' ys m' gk hn hyl hR s₁ gC hCL hoff
    show wpAny _ A (assign (.Name y py) env (.ref D)) _ _ _
    subst hL
    refine wpAny_assign_Name (wpAny_storeName_local (s := St s h' t') hy s₁.ns (fun h₂ hn₂ hs₂ => ?_) (by rw [hk]; rfl))
    have s₂ := s₁.setL hn₂ hs₂
    refine ⟨m', hn.sameBut hs₂ hCL, fun h'' hs'' => ?_⟩
    exact hfin D g' h' t' ys gk hyl hR s₁ h'' _ (s₂.other (C := C) (fun b o hb e => hs''.extBut b o hb e) gC hCL hoff)
end
end Mine35
end

-- part As35
section
set_option maxRecDepth 100000
set_option maxHeartbeats 2000000
set_option linter.unusedVariables false
namespace Mine35
open PySem PySem.W PySem.Calls PyProof.Rows
open PyProof.Rows.LCg (NsObj ns_obj lst lst_snoc)

section
variable {prog : Program} {w : World} {A : Around} {E : Value → Shared → Prop} {s : Shared} {env : Env} {x : Str} {px : Pos} {L : Addr}

theorem ev_compS {elt iter : Expr} {scope : Scope} {cl : List (Str × Addr)} {pos : Pos} {m : Str → Option Value} {Q : Value → Shared → Prop} {s₀ : Shared} {y : Str} {g h : Heap} {t : Nat} {tk : Tok} {mu : List (Addr × Obj)} (R : Nat → Value → Heap → Prop)
    (hmono : ∀ i y g g', Heap.StaysIn g g' → R i y g → R i y g') (hh : A.handled = none) (sS : S g h L m mu) (hz : y.cps.size ≤ sizeLine)
    (H : ∀ Q' : Value → Shared → Prop, Q' (.str y tk) (St s h t) → wpAny (model prog w) A (eval iter env) Q' E s₀)
    (helt : ∀ i c u g' h' t' C m₂ MU E', y.cps[i]? = some c → g.StaysIn g' → S g' h' C m₂ MU → m₂ x = some (.str ⟨#[c]⟩ u) → (∀ p ∈ mu, p ∈ MU) →
      wpAny (model prog w) A (eval elt (compEnvC scope cl C env)) (EltPost s C g' m₂ MU (R i)) E' (St s h' t'))
    (hfin : ∀ D g' h' t' ys, g.StaysIn g' → ys.length = y.cps.size → (∀ i y, ys[i]? = some y → R i y g') → S g' h' L m ((D, lst ys) :: mu) → Q (.ref D) (St s h' t'))
    (hclos : closureFor scope env = pure cl := by rfl) (hcell : ∀ y ∈ scope.names, y.2 ≠ .cell := by decide) (hkind : scope.kind = .function := by rfl)
    (hnames : ∀ y ∈ scope.names, y.2 = .local → scope.names.lookup y.1 = some .local := by decide) (hx : scope.names.lookup x = some .local := by rfl)
    (hs : ∀ x, foldedSetIterable iter env x = pure x := by intro _; rfl) :
    wpAny (model prog w) A (eval (.ListComp elt [⟨.Name x px, iter, [], 0⟩] scope pos) env) Q E s₀ := by
  rw [eval_ListComp]
  refine wpAny_comprehension_free (use := none) rfl hs hclos hkind hnames (H _ ?_)
  have fin : ∀ D C g' h' t' ys m', g.StaysIn g' → h'.Ns C m' → ys.length = y.cps.size → (∀ i y, ys[i]? = some y → R i y g') → S g' h' L m ((D, lst ys) :: mu) → g'.get? C = none → C ≠ L → (∀ p ∈ (D, lst ys) :: mu, p.1 ≠ C) →
      compPost (model prog w) A E none Q (.ref D) C (.ok .next) (St s h' t') := fun D C g' h' t' ys m' gk hn hyl hR s₁ gC hCL hoff =>
    ⟨m', hn, fun h'' hs'' => hfin D g' h'' t' ys gk hyl hR (s₁.other (C := C) (fun b o hb e => hs''.extBut b o hb e) gC hCL hoff)⟩
  cases ha : y.cps.all (· < 128) with
  | true =>
    refine wpAny_pyIter_ascii (s := St s h t) ha ?_
    refine comp_W (s := s) (g := g) (h := h.push _) (mu := mu) R hmono (Walks.strAscii hh h.objs.size y tk) (fun i h st => let ⟨o, e, _⟩ := st; ⟨o, e⟩) (fun i h h' o st e e' gk => ?_) ⟨_, push_get _ _, rfl, rfl⟩ hz (sS.new (stays_push _ _) (size_none h) (push_get _ _))
      (fun i v g' h' t' C m₂ MU E' hi hP => ?_) fin hcell hkind hx
    · obtain ⟨o', q, r⟩ := st
      rw [e] at q; cases q
      exact ⟨o, e', r⟩
    · obtain ⟨c, u, hc, rfl⟩ := hP
      exact helt i c u g' h' t' C m₂ MU E' hc
  | false =>
    refine wpAny_pyIter_wide (s := St s h t) ha ?_
    refine comp_W (s := s) (g := g) (h := h.push _) (mu := mu) R hmono (Walks.strWide hh h.objs.size y tk) (fun i h st => let ⟨o, e, _⟩ := st; ⟨o, e⟩) (fun i h h' o st e e' gk => ?_) ⟨_, push_get _ _, rfl, rfl⟩ hz (sS.new (stays_push _ _) (size_none h) (push_get _ _))
      (fun i v g' h' t' C m₂ MU E' hi hP => ?_) fin hcell hkind hx
    · obtain ⟨o', q, r⟩ := st
      rw [e] at q; cases q
      exact ⟨o, e', r⟩
    · obtain ⟨c, u, hc, rfl⟩ := hP
      exact helt i c u g' h' t' C m₂ MU E' hc
end

section
variable {prog : Program} {w : World} {A : Around} {E : Value → Shared → Prop} {s : Shared} {h : Heap} {t : Nat} {b : Bool} {v : Value} {cs : List Nat}

theorem ints_of {ys : List Value} {cs : List Nat} (hl : ys.length = cs.length) (hy : ∀ (i : Nat) (y : Value), ys[i]? = some y → ∃ c u, cs[i]? = some c ∧ y = Value.int (c : Nat) u) : IntsAre ys (cs.map fun c : Nat => (c : Int)) := by
  induction ys generalizing cs with
  | nil =>
    cases cs with
    | nil => exact .nil
    | cons _ _ => simp at hl
  | cons y ys ih =>
    cases cs with
    | nil => simp at hl
    | cons c cs =>
      obtain ⟨c', u, e, rfl⟩ := hy 0 y rfl
      cases e
      exact .cons _ _ (ih (by simpa using hl) fun i y' e => hy (i + 1) y' (by simpa using e))

theorem law_as_spec {Q : Value → Shared → Prop} (hw : Wd w h) (hv : Part false v cs) (hc : ∀ c ∈ cs, c < 256) (hz : cs.length ≤ 1000) (hh : A.handled = none) (hroom : A.depth + 1 < recursionLimit)
    (k : ∀ r h' t', h.StaysIn h' → Part b r cs → Q r (St s h' t')) : wpAny (model prog w) A (call (.ref 127) [v, .bool b]) Q E (St s h t) := by
  obtain ⟨x, tk, rfl, hx⟩ := hv.isS
  refine call_fn hw (f := 127) (binds := [(Str.ofString "text", .str x tk), (Str.ofString "octets", .bool b)]) rfl rfl (by lia) rfl (by decide) (locs rfl) ?_
  intro L h₁ t₁ E' s₁
  have hw₁ := hw.mono s₁.keep
  refine wpAny_execs_cons (wpAny_Return_some (wpAny_IfExp (isTrue_plain (ev_local s₁ rfl (wpAny_truthy_bool ?_)))))
  cases b with
  | false => exact ev_local s₁ rfl (k _ _ _ s₁.keep hv)
  | true =>
    refine wpAny_Call_ofName (ev_boot hw₁ rfl rfl (cw_ty (sp1 (ev_compS (s := s) (y := x) (tk := tk) (fun i y _ => ∃ c u, cs[i]? = some c ∧ y = .int (c : Nat) u) (fun _ _ _ _ _ r => r) hh s₁ (by rw [← Array.length_toList, hx, sizeLine_eq]; lia) (fun Q' q => ev_local s₁ rfl q) ?_ ?_))))
    · intro i c u g' h' t' C m₂ MU E' hci gk sS hm hmu
      have hwS := hw.mono (stays_trans gk sS.keep)
      refine wpAny_Call_ofName (ev_boot hwS rfl rfl (cw_bi (sp1 (ev_local sS hm ?_))))
      refine P.ord_of_char ?_
      refine ⟨_, _, _, rfl, stays_refl _, sS, c, _, ?_, rfl⟩
      rw [← hx, Array.getElem?_toList]; exact hci
    · intro D g' h' t' ys gk hyl hR sS
      refine call_bytes_ints (s := St s h' t') (vs := ys) (ns := cs.map fun c : Nat => (c : Int)) ⟨_, sS.has _ (.head _), rfl, _, rfl⟩ (ints_of (by rw [hyl, ← Array.length_toList, hx]) hR) (fun n hn => ?_) (by rw [hyl, ← Array.length_toList, hx, sizeLine_eq]; lia) hh fun h'' t'' k'' hk'' => ?_
      · obtain ⟨c, hc', rfl⟩ := List.mem_map.mp hn
        have := hc c hc'; lia
      · refine k _ _ _ (stays_trans gk (stays_trans sS.keep hk'')) (.mkB ?_)
        show List.map _ ((cs.map fun c : Nat => (c : Int)).map fun n => n.toNat.toUInt8) = cs
        rw [List.map_map, List.map_map]
        refine (List.map_congr_left (g := id) fun c hc' => ?_).trans (List.map_id _)
        have := hc c hc'
        show (((c : Int)).toNat.toUInt8).toNat = c
        rw [Int.toNat_natCast]
        simp; lia
end
end Mine35
end

-- part Sign35
section
set_option maxRecDepth 100000
set_option maxHeartbeats 2000000
set_option linter.unusedVariables false
namespace Mine35
open PySem PySem.W PySem.Calls PyProof.Rows
open PyProof.Rows.LCg (NsObj ns_obj lst lst_snoc)
section
variable {prog : Program} {w : World} {A : Around} {E : Value → Shared → Prop} {s : Shared} {h : Heap} {t : Nat}

theorem law_sign_spec {n : Int} {tk : Tok} {Q : Value → Shared → Prop} (hw : Wd w h) (h0 : 0 ≤ n) (h1 : n < 2048) (hroom : A.depth + 1 < recursionLimit)
    (k : ∀ c r h' t', h.StaysIn h' → c < 256 → Part false r [c] → Q r (St s h' t')) : wpAny (model prog w) A (call (.ref 134) [.int n tk]) Q E (St s h t) := by
  refine call_fn hw (f := 134) (binds := [(Str.ofString "number", .int n tk)]) rfl rfl (by lia) rfl (by decide) (locs rfl) ?_
  intro L h₁ t₁ E' s₁
  have hw₁ := hw.mono s₁.keep
  refine wpAny_execs_cons (wpAny_Return_some (wpAny_IfExp (wpAny_isTrue_Compare1 (wpAny_BinOp (ev_local s₁ rfl (wpAny_Constant_int (PyProof.Rows.mod_int' (by decide) (wpAny_Constant_int (PyProof.Rows.eq_int (wpAny_truthy_bool ?_))))))))))
  have hm : n.fmod 8 = n % 8 := Int.fmod_eq_emod_of_nonneg n (by decide)
  have hd : n.fdiv 8 = n / 8 := Int.fdiv_eq_ediv_of_nonneg n (by decide)
  rw [hm]
  have h2 : 0 ≤ n % 8 := Int.emod_nonneg _ (by decide)
  have h3 : n % 8 < 8 := Int.emod_lt_of_pos _ (by decide)
  cases he : (n % 8 == 7) with
  | true =>
    refine wpAny_Call_ofName (ev_boot hw₁ rfl rfl (cw_bi (sp1 (wpAny_BinOp (ev_local s₁ rfl (wpAny_Constant_int (PyProof.Rows.floordiv_int (by decide) ?_ (Or.inl (PyProof.noPylong_small (by lia))))))))))
    rw [hd]
    refine P.chr_of_int (by simp; lia) ?_
    refine k (n / 8).toNat _ _ _ s₁.keep (by lia) (.mkS rfl)
  | false =>
    have hne : n % 8 ≠ 7 := by simpa using he
    refine Subscript_ (Calls.Constant_str (wpAny_BinOp (ev_local s₁ rfl (wpAny_Constant_int (PyProof.Rows.mod_int' (by decide) ?_)))))
    rw [hm]
    generalize n % 8 = i at *
    have hi : i = 0 ∨ i = 1 ∨ i = 2 ∨ i = 3 ∨ i = 4 ∨ i = 5 ∨ i = 6 := by lia
    rcases hi with rfl | rfl | rfl | rfl | rfl | rfl | rfl
    · exact subscriptTail_builtin (typeIs_str _ _ _) F.slot_str_getitem.lookup (P.getItem_str (c := 47) rfl rfl (k 47 _ _ _ s₁.keep (by decide) (.mkS rfl)))
    · exact subscriptTail_builtin (typeIs_str _ _ _) F.slot_str_getitem.lookup (P.getItem_str (c := 47) rfl rfl (k 47 _ _ _ s₁.keep (by decide) (.mkS rfl)))
    · exact subscriptTail_builtin (typeIs_str _ _ _) F.slot_str_getitem.lookup (P.getItem_str (c := 47) rfl rfl (k 47 _ _ _ s₁.keep (by decide) (.mkS rfl)))
    · exact subscriptTail_builtin (typeIs_str _ _ _) F.slot_str_getitem.lookup (P.getItem_str (c := 97) rfl rfl (k 97 _ _ _ s₁.keep (by decide) (.mkS rfl)))
    · exact subscriptTail_builtin (typeIs_str _ _ _) F.slot_str_getitem.lookup (P.getItem_str (c := 97) rfl rfl (k 97 _ _ _ s₁.keep (by decide) (.mkS rfl)))
    · exact subscriptTail_builtin (typeIs_str _ _ _) F.slot_str_getitem.lookup (P.getItem_str (c := 98) rfl rfl (k 98 _ _ _ s₁.keep (by decide) (.mkS rfl)))
    · exact subscriptTail_builtin (typeIs_str _ _ _) F.slot_str_getitem.lookup (P.getItem_str (c := 46) rfl rfl (k 46 _ _ _ s₁.keep (by decide) (.mkS rfl)))
end
end Mine35
end

-- part Lists35
section
set_option maxRecDepth 100000
set_option maxHeartbeats 2000000
set_option linter.unusedVariables false
namespace Mine35
open PySem PySem.W PySem.Calls PyProof.Rows
open PyProof.Rows.LCg (NsObj ns_obj lst lst_snoc)

abbrev lo (vs : List Value) (n : Nat) : Obj := { cls := .type "list", data := .seq vs.toArray n }

section
variable {prog : Program} {w : World} {A : Around} {E : Value → Shared → Prop} {s : Shared} {h g : Heap} {t : Nat} {Q : Value → Shared → Prop} {L : Addr} {m : Str → Option Value} {mu : List (Addr × Obj)}

/-- a + b of two lists: a new list -/
theorem add_list {l b : Addr} {vs ws : List Value} (s₀ : S g h L m mu) (hl : h.IsList l vs.toArray) (hb : h.IsList b ws.toArray) (hsz : vs.length + ws.length ≤ 16777216)
    (k : ∀ a h', h.StaysIn h' → h.get? a = none → h'.get? a = some (lo (vs ++ ws) 0) → Q (.ref a) (St s h' t)) : wpAny (model prog w) A (binaryOp .Add (.ref l) (.ref b)) Q E (St s h t) := by
  obtain ⟨⟨cls, dd, data, sl⟩, ho, hc, n, hd⟩ := id hl
  obtain ⟨⟨cls2, dd2, data2, sl2⟩, ho2, hc2, n2, hd2⟩ := id hb
  simp only at hc hd hc2 hd2
  subst hc hd hc2 hd2
  have e : vs.toArray ++ ws.toArray = (vs ++ ws).toArray := by simp
  refine concat_meets (s := St s h t) ⟨_, ho, rfl⟩ ⟨_, ho2, rfl⟩ noFill_list_add seq_list_add PySem.F.slot_list_add PySem.F.entry_list_add (PySem.F.args_list_add_2 _ _) (list_addW l b vs.toArray ws.toArray n n2 dd dd2 sl sl2 (by rw [sizeLine_eq]; simpa using hsz)) ⟨ho, ho2, ?_⟩
  rw [e]
  exact k _ _ (stays_push _ _) (size_none h) (push_get _ _)

theorem seq_list_iadd : seqSlot? (.type "list") (dunderI "add") = pure (some (.builtin "list.__iadd__")) := PySem.seqSlot_of F.slot_list_iadd.lookup (by decide +kernel)

theorem iadd_list {a d : Addr} {vs ws : List Value} {n : Nat} (s₀ : S g h L m ((a, lo vs n) :: mu)) (hd : h.IsList d ws.toArray) (hsz : vs.length + ws.length ≤ 16777216)
    (k : ∀ h' n', S g h' L m ((a, lo (vs ++ ws) n') :: mu) → Q (.ref a) (St s h' t)) : wpAny (model prog w) A (inplaceOp .Add (.ref a) (.ref d)) Q E (St s h t) := by
  have ha : h.get? a = some (lo vs n) := s₀.has _ (.head _)
  obtain ⟨od, ho2, hc2, n2, hd2⟩ := id hd
  unfold inplaceOp
  refine wpAny_holding ?_
  have hfi : fillsInplaceSlot (.type "list") "add" (Operator.Add == .Add) = pure false := by
    unfold fillsInplaceSlot
    show (typeLookup (.type "list") (dunderI "add") >>= fun fi => pure (fi.isSome && !isSeqSlot fi)) = pure false
    rw [F.slot_list_iadd.lookup]; rfl
  refine wpAny_bind (wpAny_typeOf (T := "list") ⟨_, ha, rfl⟩ (wpAny_bind (wpAny_of_eq hfi ?_)))
  show wpAny _ A (if false = true then _ else _) Q E _
  rw [if_neg Bool.false_ne_true]
  refine wpAny_bind (wpAny_binaryOp1_none (nm := "add") (T := "list") ⟨_, ha, rfl⟩ ⟨_, ho2, hc2⟩ noFill_list_add ?_)
  refine wpAny_bind (wpAny_of_eq seq_list_iadd ?_)
  refine wpAny_bind (wpAny_rule ?_)
  refine wpAny_call_entry F.slot_list_iadd ⟨_, ha, rfl⟩ F.entry_list_iadd ?_ (by unfold argsOk; kernel_rfl)
  show wpAny _ A.in1 (Builtin.List.listExtendWith (.ref a) (.ref d) (.ref a)) _ _ _
  unfold Builtin.List.listExtendWith
  refine wpAny_bind (wpAny_typeOf (T := "list") ⟨_, ho2, hc2⟩ ?_)
  have h1 : (Builtin.List.listSameRef (.ref a) (.ref d) || Value.type "list" == Value.type "list" || Value.type "list" == Value.type "tuple") = true := by simp
  simp only [h1, if_true]
  refine wpAny_bind (listItems_at ho2 hd2 (wpAny_bind (listItems_at ha rfl ?_)))
  rw [if_neg (by simp [Builtin.List.listTooLong, sizeLine_eq]; intros; lia)]
  have sz1 : vs.toArray.size ≤ sizeLine := by rw [sizeLine_eq, List.size_toArray]; lia
  have sz2 : (vs.toArray ++ ws.toArray).size ≤ sizeLine + 1 := by rw [sizeLine_eq]; simp; lia
  refine wpAny_bind (listUpdate_at ha rfl ?_ sz1 sz2)
  refine wpAny_pure ⟨_, rfl, ?_⟩
  have e := get?_update_seq (c := "list") ha (· ++ ws.toArray)
  have e2 : vs.toArray ++ ws.toArray = (vs ++ ws).toArray := by simp
  rw [e2] at e
  exact k _ _ (s₀.upd (Heap.SameBut.update ..) e)
end

section
variable {prog : Program} {w : World} {A : Around} {E : Value → Shared → Prop} {s : Shared} {h g : Heap} {t : Nat} {Q : Value → Shared → Prop} {env : Env}

/-- xs[i], the index not negative -/
theorem ev_item {value slice : Expr} {pos : Pos} {s₀ : Shared}
    (H : wpAny (model prog w) A (eval value env) (fun o s₁ => wpAny (model prog w) A (eval slice env) (fun i s₂ => ∃ (l : Addr) (vs : List Value) (k : Nat) (u : Tok) (v : Value), o = .ref l ∧ i = .int (k : Int) u ∧ s₂.heap.IsList l vs.toArray ∧ vs[k]? = some v ∧ k < 1000000 ∧ Q v s₂) E s₁) E s₀)
    (hs : ∀ o i, subscripted slice false o i = operate [o, i] (getItem o i) := by intro _ _; with_unfolding_all rfl) (ht : ∀ o r, letTemporaryGo value o r = pure () := by intro _ _; with_unfolding_all rfl) :
    wpAny (model prog w) A (eval (.Subscript value slice pos) env) Q E s₀ := by
  refine Subscript_ (wpAny_mono H (fun o s₁ h₁ => wpAny_mono h₁ (fun i s₂ h₂ => ?_) fun _ _ x => x) fun _ _ x => x)
  obtain ⟨l, vs, k, u, v, rfl, rfl, hl, hv, hk, q⟩ := h₂
  exact subscriptTail_builtin hl.typeIs F.slot_list_getitem.lookup (wpAny_getItem_list hl (by lia) (by lia) (by simpa using hv) q) (hs _ _) (ht _)

/-- xs[-1] -/
theorem ev_last {value slice : Expr} {pos : Pos} {s₀ : Shared}
    (H : wpAny (model prog w) A (eval value env) (fun o s₁ => wpAny (model prog w) A (eval slice env) (fun i s₂ => ∃ (l : Addr) (vs : List Value) (u : Tok) (v : Value), o = .ref l ∧ i = .int (-1) u ∧ s₂.heap.IsList l (vs ++ [v]).toArray ∧ Q v s₂) E s₁) E s₀)
    (hs : ∀ o i, subscripted slice false o i = operate [o, i] (getItem o i) := by intro _ _; with_unfolding_all rfl) (ht : ∀ o r, letTemporaryGo value o r = pure () := by intro _ _; with_unfolding_all rfl) :
    wpAny (model prog w) A (eval (.Subscript value slice pos) env) Q E s₀ := by
  refine Subscript_ (wpAny_mono H (fun o s₁ h₁ => wpAny_mono h₁ (fun i s₂ h₂ => ?_) fun _ _ x => x) fun _ _ x => x)
  obtain ⟨l, vs, u, v, rfl, rfl, hl, q⟩ := h₂
  refine subscriptTail_builtin hl.typeIs F.slot_list_getitem.lookup (wpAny_getItem_list_neg (x := v) hl (by lia) (by simp; lia) (by lia) ?_ q) (hs _ _) (ht _)
  have e : ((-1 : Int) + ((vs ++ [v]).toArray.size : Nat)).toNat = vs.length := by simp; lia
  rw [e]; simp

/-- xs[:-1] -/
theorem ev_init {value : Expr} {upper : Expr} {p pos : Pos} {s₀ : Shared}
    (H : wpAny (model prog w) A (eval value env) (fun o s₁ => wpAny (model prog w) A (eval upper env) (fun i s₂ => ∃ (l : Addr) (vs : List Value) (u : Tok), o = .ref l ∧ i = .int (-1) u ∧ s₂.heap.IsList l vs.toArray ∧ vs.length ≤ 16777216 ∧
      ∀ a h', s₂.heap.StaysIn h' → s₂.heap.get? a = none → h'.get? a = some (lo (vs.take (vs.length - 1)) 0) → Q (.ref a) { s₂ with heap := h' }) E s₁) E s₀)
    (ht : ∀ o r, letTemporaryGo value o r = pure () := by intro _ _; rfl) :
    wpAny (model prog w) A (eval (.Subscript value (.Slice none (some upper) none p) pos) env) Q E s₀ := by
  refine wpAny_Subscript_list_slice (wpAny_mono H (fun o s₁ h₁ => wpAny_evalPart_none (wpAny_evalPart_some (wpAny_mono h₁ (fun i s₂ h₂ => ?_) fun _ _ x => x))) fun _ _ x => x) ht
  obtain ⟨l, vs, u, rfl, rfl, hl, hz, q⟩ := h₂
  refine ⟨l, vs.toArray, none, some (-1), rfl, hl, by rw [sizeLine_eq]; simpa using hz, .none, .int _ _, ?_⟩
  have e : slicePick vs.toArray none (some (-1)) none = (vs.take (vs.length - 1)).toArray := by
    have := slicePick_butLast vs.toArray 1 (Nat.le_refl _)
    simpa using this
  rw [e]
  refine q _ _ (stays_trans (stays_push _ _) (stays_push _ _)) (Heap.get?_none_of_le (Nat.le_succ _)) ?_
  have hsz : s₂.heap.objs.size + 1 = (s₂.heap.push { cls := .type "slice", data := .fields #[.none, .int (-1) u, .none] }).objs.size := by rw [Heap.size_push]
  rw [hsz]; exact push_get _ _
end
end Mine35
end

-- part Cut35
section
set_option maxRecDepth 100000
set_option maxHeartbeats 2000000
set_option linter.unusedVariables false
namespace Mine35
open PySem PySem.W PySem.Calls PyProof.Rows
open PyProof.Rows.LCg (NsObj ns_obj lst lst_snoc)

def cutL (cs : List Nat) (lo hi : Option Int) : List Nat := (cs.drop (lo.elim 0 (clipAt cs.length))).take (hi.elim cs.length (clipAt cs.length) - lo.elim 0 (clipAt cs.length))

theorem str_idx (lo hi : Option Int) (n : Nat) : Builtin.Str.strSliceIndices lo hi 1 n = (List.range (hi.elim n (clipAt n) - lo.elim 0 (clipAt n))).map (lo.elim 0 (clipAt n) + ·) := by
  rw [← sliceRange_one]
  unfold Builtin.Str.strSliceIndices
  cases lo <;> cases hi <;> simp [clipAt_cast]

section
variable {prog : Program} {w : World} {A : Around} {E : Value → Shared → Prop} {s : Shared} {h g : Heap} {t : Nat} {Q : Value → Shared → Prop} {env : Env} {b : Bool}

theorem part_pv {v : Value} {lo : Option Int} (h : IsPart v lo) : ∃ l : Option (Int × Tok), v = partValue l ∧ l.map (·.1) = lo := by
  cases h with
  | none => exact ⟨none, rfl, rfl⟩
  | int i t => exact ⟨some (i, t), rfl, rfl⟩

theorem ev_cut {value : Expr} {lower upper : Option Expr} {p pos : Pos} {s₀ : Shared}
    (H : wpAny (model prog w) A (eval value env) (fun o s₁ => wpAny (model prog w) A (evalPart lower env) (fun vl s₂ => wpAny (model prog w) A (evalPart upper env) (fun vu s₃ =>
      ∃ (cs : List Nat) (lo hi : Option Int), Part b o cs ∧ IsPart vl lo ∧ IsPart vu hi ∧ cs.length ≤ 16777216 ∧ ∀ r h' t', s₃.heap.StaysIn h' → Part b r (cutL cs lo hi) → Q r (St s₃ h' t')) E s₂) E s₁) E s₀)
    (hs : ∀ o i, subscripted (.Slice lower upper none p) false o i = operate [i, o] (getItem o i) := by intro _ _; with_unfolding_all rfl) :
    wpAny (model prog w) A (eval (.Subscript value (.Slice lower upper none p) pos) env) Q E s₀ := by
  cases b with
  | false =>
    refine Subscript_ (wpAny_mono H (fun o s₁ h₁ => wpAny_Slice (wpAny_mono h₁ (fun vl s₂ h₂ => wpAny_mono h₂ (fun vu s₃ h₃ => wpAny_evalPart_none ?_) fun _ _ x => x) fun _ _ x => x)) fun _ _ x => x)
    obtain ⟨cs, lo, hi, hp, hl, hu, hz, k⟩ := h₃
    obtain ⟨x, tk, rfl, hx⟩ := hp.isS
    obtain ⟨l, rfl, hl'⟩ := part_pv hl
    obtain ⟨u, rfl, hu'⟩ := part_pv hu
    refine tail_any (typeIs_str _ _ _) F.slot_str_getitem.lookup (wpAny_getItem_str_slice (l := l) (u := u) (st := none) ⟨_, Heap.get?_push_size _ rfl, rfl, rfl⟩ rfl ?_) (hs _ _)
    have hn : x.length = cs.length := lenS hx
    have hpk : slicePicked x l u none = (List.range (hi.elim cs.length (clipAt cs.length) - lo.elim 0 (clipAt cs.length))).map (lo.elim 0 (clipAt cs.length) + ·) := by
      unfold slicePicked
      rw [hl', hu', hn]
      exact str_idx _ _ _
    have hlo : lo.elim 0 (clipAt cs.length) ≤ cs.length := by
      cases lo with
      | none => exact Nat.zero_le _
      | some i => have := clipAt_cast cs.length i; simp only [Option.elim]; lia
    have hhi : hi.elim cs.length (clipAt cs.length) ≤ cs.length := by
      cases hi with
      | none => exact Nat.le_refl _
      | some i => have := clipAt_cast cs.length i; simp only [Option.elim]; lia
    unfold sliceMade
    rw [hpk]
    by_cases hw : (((Option.map (fun x : Int × Tok => x.1) none).getD 1 == 1 && ((List.range (hi.elim cs.length (clipAt cs.length) - lo.elim 0 (clipAt cs.length))).map (lo.elim 0 (clipAt cs.length) + ·)).length == x.length) = true)
    · rw [if_pos hw]
      have hw' : hi.elim cs.length (clipAt cs.length) - lo.elim 0 (clipAt cs.length) = cs.length := by
        simpa [hn] using hw
      refine k _ _ _ (stays_push _ _) (.mkS ?_)
      unfold cutL
      have h0 : lo.elim 0 (clipAt cs.length) = 0 := by lia
      rw [hw', h0, hx]; simp
    · rw [if_neg hw]
      refine ⟨?_, k _ _ _ (stays_push _ _) (.mkS ?_)⟩
      · show (List.toArray _).size ≤ _
        rw [pick_run, List.size_toArray, sizeLine_eq, List.length_take, List.length_drop, hx]; lia
      · show (List.toArray _).toList = _
        rw [pick_run, hx]; rfl
  | true =>
    refine Subscript_ (wpAny_mono H (fun o s₁ h₁ => wpAny_Slice (wpAny_mono h₁ (fun vl s₂ h₂ => wpAny_mono h₂ (fun vu s₃ h₃ => ?_) fun _ _ x => x) fun _ _ x => x)) fun _ _ x => x)
    obtain ⟨cs, lo, hi, hp, hl, hu, hz, k⟩ := h₃
    obtain ⟨x, tk, rfl, hx⟩ := hp.isB
    have hn : x.size = cs.length := by rw [← hx]; simp
    refine wpAny_evalPart_none (tail_any (T := "bytes") rfl FB.slot_bytes_getitem.lookup ?_ (hs _ _))
    refine getItem_meets (T := "bytes") rfl (by decide) FB.slot_bytes_getitem FB.entry_bytes_getitem (FB.args_bytes_getitem_2 _ _) (KBc.meets_slice2 x tk _ hl hu) ⟨Heap.IsSliceOf.new _ _ _ _, Nat.le_trans (KBc.size_picked_le x lo hi) (by rw [hn, sizeLine_eq]; exact hz), fun t' k' => ?_⟩
    refine k _ _ _ (stays_push _ _) (.mkB ?_)
    rw [KBc.picked_eq, hn]
    show (List.map _ ((x.toList.drop _).take _)) = _
    rw [List.map_take, List.map_drop, hx]; rfl
end

theorem cut_to {cs : List Nat} {k : Nat} (h : k ≤ cs.length) : cutL cs none (some (k : Int)) = cs.take k := by
  unfold cutL; simp only [Option.elim, clipAt_nat, List.drop_zero, Nat.sub_zero]; rw [Nat.min_eq_left h]
theorem cut_from {cs : List Nat} {k : Nat} (h : k ≤ cs.length) : cutL cs (some (k : Int)) none = cs.drop k := by
  unfold cutL; simp only [Option.elim, clipAt_nat]; rw [Nat.min_eq_left h, List.take_of_length_le (by simp)]
theorem cut_init {cs : List Nat} : cutL cs none (some (-1)) = cs.dropLast := by
  unfold cutL; simp only [Option.elim, List.drop_zero, Nat.sub_zero]
  rw [show (-1 : Int) = -((1 : Nat) : Int) from rfl, clipAt_neg _ _ (Nat.le_refl _), List.dropLast_eq_take]
end Mine35
end

-- part Data35
section
set_option maxRecDepth 100000
set_option maxHeartbeats 2000000
set_option linter.unusedVariables false
namespace Mine35
open PySem PySem.W PySem.Calls PyProof.Rows
open PyProof.Rows.LCg (NsObj ns_obj lst lst_snoc)

def All2 {α β : Type} (R : α → β → Prop) : List α → List β → Prop
  | [], [] => True
  | v :: vs, c :: cs => R v c ∧ All2 R vs cs
  | _, _ => False
section
variable {α β : Type} {R R' : α → β → Prop}
theorem All2.length : ∀ {vs : List α} {cs : List β}, All2 R vs cs → vs.length = cs.length
  | [], [], _ => rfl
  | _ :: _, _ :: _, h => congrArg (· + 1) (All2.length h.2)
  | [], _ :: _, h => h.elim
  | _ :: _, [], h => h.elim
theorem All2.get : ∀ {vs : List α} {cs : List β}, All2 R vs cs → ∀ {i : Nat} {v : α}, vs[i]? = some v → ∃ c, cs[i]? = some c ∧ R v c
  | [], [], _, _, _, e => by simp at e
  | v :: vs, c :: cs, h, 0, _, e => by cases e; exact ⟨c, rfl, h.1⟩
  | v :: vs, c :: cs, h, i + 1, _, e => All2.get h.2 (by simpa using e)
  | [], _ :: _, h, _, _, _ => h.elim
  | _ :: _, [], h, _, _, _ => h.elim
theorem All2.get' : ∀ {vs : List α} {cs : List β}, All2 R vs cs → ∀ {i : Nat} {c : β}, cs[i]? = some c → ∃ v, vs[i]? = some v ∧ R v c
  | [], [], _, _, _, e => by simp at e
  | v :: vs, c :: cs, h, 0, _, e => by cases e; exact ⟨v, rfl, h.1⟩
  | v :: vs, c :: cs, h, i + 1, _, e => All2.get' h.2 (by simpa using e)
  | [], _ :: _, h, _, _, _ => h.elim
  | _ :: _, [], h, _, _, _ => h.elim
theorem All2.append : ∀ {vs vs' : List α} {cs cs' : List β}, All2 R vs cs → All2 R vs' cs' → All2 R (vs ++ vs') (cs ++ cs')
  | [], _, [], _, _, h' => h'
  | _ :: _, _, _ :: _, _, h, h' => ⟨h.1, All2.append h.2 h'⟩
  | [], _, _ :: _, _, h, _ => h.elim
  | _ :: _, _, [], _, h, _ => h.elim
theorem All2.mono (k : ∀ v c, R v c → R' v c) : ∀ {vs : List α} {cs : List β}, All2 R vs cs → All2 R' vs cs
  | [], [], _ => trivial
  | _ :: _, _ :: _, h => ⟨k _ _ h.1, All2.mono k h.2⟩
  | [], _ :: _, h => h.elim
  | _ :: _, [], h => h.elim
theorem All2.of : ∀ {vs : List α} {cs : List β}, vs.length = cs.length → (∀ (i : Nat) (v : α), vs[i]? = some v → ∃ c, cs[i]? = some c ∧ R v c) → All2 R vs cs
  | [], [], _, _ => trivial
  | v :: vs, c :: cs, hl, h => ⟨by obtain ⟨c', e, r⟩ := h 0 v rfl; cases e; exact r, All2.of (by simpa using hl) fun i v e => h (i + 1) v (by simpa using e)⟩
  | [], _ :: _, hl, _ => by simp at hl
  | _ :: _, [], hl, _ => by simp at hl
theorem All2.one {v : α} {c : β} (h : R v c) : All2 R [v] [c] := ⟨h, trivial⟩
end

abbrev Row := List (List Nat)

def RowAt (b : Bool) (g : Heap) (v : Value) (row : Row) : Prop := ∃ a vs, v = .ref a ∧ g.IsList a vs.toArray ∧ PartL b vs row
def RowsAt (b : Bool) (g : Heap) (v : Value) (rows : List Row) : Prop := ∃ a vs, v = .ref a ∧ g.IsList a vs.toArray ∧ All2 (RowAt b g) vs rows

theorem isList_mono {g g' : Heap} {a : Addr} {xs : Array Value} (k : g.StaysIn g') (h : g.IsList a xs) : g'.IsList a xs := h.at fun o e => k a o e
theorem RowAt.mono {b : Bool} {g g' : Heap} {v : Value} {row : Row} (k : g.StaysIn g') (h : RowAt b g v row) : RowAt b g' v row :=
  let ⟨a, vs, e, l, p⟩ := h; ⟨a, vs, e, isList_mono k l, p⟩
theorem RowsAt.mono {b : Bool} {g g' : Heap} {v : Value} {rows : List Row} (k : g.StaysIn g') (h : RowsAt b g v rows) : RowsAt b g' v rows :=
  let ⟨a, vs, e, l, p⟩ := h; ⟨a, vs, e, isList_mono k l, p.mono fun _ _ r => r.mono k⟩

section
variable {prog : Program} {w : World} {A : Around} {E : Value → Shared → Prop} {s : Shared} {env : Env} {x : Str} {px : Pos} {L : Addr} {b : Bool}

/-- a comprehension over rows, an element a row -/
theorem CompL.rows {elt : Expr} {scope : Scope} {cl : List (Str × Addr)} {Fin : Value → Heap → Nat → Heap → List (Addr × Obj) → Addr → List Value → Prop} {g h : Heap} {t : Nat} {m : Str → Option Value} {mu : List (Addr × Obj)} {v : Value} {rows : List Row} {b' : Bool}
    (f : Row → Row) (hh : A.handled = none) (s₀ : S g h L m mu) (hv : RowsAt b g v rows) (hz : rows.length ≤ 1000000)
    (helt : ∀ rv row g' h' t' C m₂ MU E', row ∈ rows → RowAt b g' rv row → g.StaysIn g' → S g' h' C m₂ MU → m₂ x = some rv → (∀ p ∈ mu, p ∈ MU) →
      wpAny (model prog w) A (eval elt (compEnvC scope cl C env)) (EltPost s C g' m₂ MU (fun y g'' => RowAt b' g'' y (f row))) E' (St s h' t'))
    (hfin : ∀ D g' h' t' ys, g.StaysIn g' → All2 (RowAt b' g') ys (rows.map f) → S g' h' L m ((D, lst ys) :: mu) → Fin (.ref D) h' t' g' mu D ys) :
    CompL prog w A s env L m elt x scope cl Fin v (St s h t) := by
  obtain ⟨a, vs, rfl, hl, hr⟩ := hv
  refine CompL.of (fun i y g'' => ∃ row, rows[i]? = some row ∧ RowAt b' g'' y (f row)) hh s₀ hl (by rw [hr.length, sizeLine_eq]; lia) (fun i y g g' k r => let ⟨row, e, p⟩ := r; ⟨row, e, p.mono k⟩) ?_ ?_
  · intro i rv g' h' t' C m₂ MU E' hi gk sS hm hmu
    obtain ⟨row, e, p⟩ := hr.get hi
    refine wpAny_mono (helt rv row g' h' t' C m₂ MU E' (List.mem_of_getElem? e) (p.mono gk) gk sS hm hmu) (fun y s' q => ?_) fun _ _ x => x
    obtain ⟨g₁, h₁, t₁, e₁, k₁, s₁, r₁⟩ := q
    exact ⟨g₁, h₁, t₁, e₁, k₁, s₁, row, e, r₁⟩
  · intro D g' h' t' ys gk hyl hR sS
    refine hfin D g' h' t' ys gk (All2.of (by rw [hyl, hr.length, List.length_map]) fun i y e => ?_) sS
    obtain ⟨row, e', p⟩ := hR i y e
    exact ⟨f row, by rw [List.getElem?_map, e']; rfl, p⟩

/-- a def of the top with one captured name, called -/
theorem call_fnC1 {f : Addr} {name qual : Str} {params : Arguments} {body : List Stmt} {scope : Scope} {dV kV doc pm cdv ct oc : Value} {an od : Option Addr} {osl : Array (Option Value)} {args : List Value} {binds : List (Str × Value)} {h : Heap} {t : Nat} {Q : Value → Shared → Prop} {c : Str}
    (hw : Wd w h) (ho : (KF w).lookup f = some ⟨oc, od, .func (fnOf name qual params body scope dV kV doc pm an cdv ct), osl⟩) (hcd : codeIn (KF w) cdv qual = true) (hroom : A.depth < recursionLimit)
    (hbind : bindArgs (fnOf name qual params body scope dV kV doc pm an cdv ct) ⟨args, []⟩ = pure binds) (hcell : ∀ L, cellsFrom (L + 1) scope.names [] = [(c, L + 1)]) (hloc : ∀ x ∈ binds, scope.names.lookup x.1 = some .local)
    (k : ∀ L h₁ t₁ E' o, o.data = .cell none → S h h₁ L (bindL (envOfC qual scope L f cdv).kindOf binds fun _ => none) [(L + 1, o)] →
      wpAny (model prog w) (A.deeper (envOfC qual scope L f cdv)) (execs body (envOfC qual scope L f cdv)) (fun fl s' => Q (match fl with | .ret v => v | _ => .none) s') E' (St s h₁ t₁))
    (hco : scope.isCoroutine = false := by rfl) (hgen : scope.isGenerator = false := by rfl) (hk : scope.kind = .function := by rfl) :
    wpAny (model prog w) A (call (.ref f) args) Q E (St s h t) := by
  refine wpAny_call (codeAny_call_cells (s := St s h t) (fd := fnOf name qual params body scope dV kV doc pm an cdv ct) (body := body) (binds := binds) hroom (hw.K _ _ ho) rfl hw.lim (codeRec_of hw.K hcd) rfl hbind rfl (fun x hx => .inl (hloc x hx)) (fun s₁ hI => ?_) hco hgen hk)
  have hbc : ∀ (l : List (Str × Value)) (m₀ : Str → Option Value), (∀ x ∈ l, scope.names.lookup x.1 = some .local) → bindC (envOfC qual scope h.objs.size f cdv).kindOf l m₀ = m₀ := by
    intro l
    induction l with
    | nil => intro m₀ _; rfl
    | cons p r ih =>
      intro m₀ hl'
      obtain ⟨n, v⟩ := p
      have e : (envOfC qual scope h.objs.size f cdv).kindOf n = some .local := hl' (n, v) (.head _)
      show bindC _ r (if (envOfC qual scope h.objs.size f cdv).kindOf n = some .local then m₀ else _) = m₀
      rw [if_pos e]
      exact ih m₀ fun x hx => hl' x (.tail _ hx)
  obtain ⟨⟨h₁, t₁, rfl⟩, hns, hkeep, _⟩ := hI.toInCall
  have hcl : (callEnvC (fnOf name qual params body scope dV kV doc pm an cdv ct) (St s h t).heap.objs.size f).cells = [(c, h.objs.size + 1)] := hcell h.objs.size
  obtain ⟨o, eo, od'⟩ := hI.cell c (h.objs.size + 1) (by rw [hcl]; simp)
  have hbn := hbc binds (fun _ => none) hloc
  have od2 : o.data = .cell none := od'.trans (congrArg Data.cell (congrFun hbn c))
  have s₁ : S h h₁ h.objs.size (bindL (envOfC qual scope h.objs.size f cdv).kindOf binds fun _ => none) [(h.objs.size + 1, o)] :=
    ⟨hkeep, hns, size_none h, fun p hp => by rw [List.mem_singleton.mp hp]; exact eo, fun p hp => by rw [List.mem_singleton.mp hp]; exact ⟨Heap.get?_none_of_le (Nat.le_succ _), Nat.succ_ne_self _⟩, by simp⟩
  refine wpAny_mono (k h.objs.size h₁ t₁ _ o od2 s₁) (fun fl s' hq => hq) fun _ _ e => e
end
end Mine35
end

-- part Due35
section
set_option maxRecDepth 100000
set_option maxHeartbeats 2000000
set_option linter.unusedVariables false
namespace Mine35
open PySem PySem.W PySem.Calls PyProof.Rows
open PyProof.Rows.LCg (NsObj ns_obj lst lst_snoc)

def rExt (c : Nat) (row : Row) : Row := row.take (row.length - 1) ++ [row.getLastD [] ++ [c]]
def rNew (c : Nat) (row : Row) : Row := row ++ [[c]]
def rCut (c : Nat) (row : Row) : Row := row.take (row.length - 1) ++ [(row.getLastD []).dropLast, [c]]

def dueStep (cs : List Nat) (k : Nat) (rows : List Row) : List Row :=
  rows.map (rExt (cs.getD k 0)) ++ (if (cs.getD k 0 != 47 && (decide (0 < k) && cs.getD (k - 1) 0 == 47)) = true then
    rows.map (rNew (cs.getD k 0)) ++ (if (decide (1 < k) && cs.getD (k - 2) 0 != 47) = true then rows.map (rCut (cs.getD k 0)) else []) else [])
def dueR (cs : List Nat) : Nat → List Row
  | 0 => [[[]]]
  | k + 1 => dueStep cs k (dueR cs k)

def RowOk (k : Nat) (row : Row) : Prop := row ≠ [] ∧ row.length ≤ k + 1 ∧ ∀ p ∈ row, p.length ≤ k

theorem last_mem {row : Row} (h : row ≠ []) : row.getLastD [] ∈ row := by
  rw [List.getLastD_eq_getLast?, List.getLast?_eq_getLast h]
  exact List.getLast_mem h

theorem RowOk.ext {k c : Nat} {row : Row} (h : RowOk k row) : RowOk (k + 1) (rExt c row) := by
  refine ⟨by simp [rExt], ?_, fun p hp => ?_⟩
  · have := h.2.1; simp [rExt]; lia
  · unfold rExt at hp
    rcases List.mem_append.mp hp with hp | hp
    · have := h.2.2 p (List.mem_of_mem_take hp); lia
    · rw [List.mem_singleton.mp hp]
      have := h.2.2 _ (last_mem h.1)
      rw [List.length_append, List.length_singleton]; lia
theorem RowOk.new {k c : Nat} {row : Row} (h : RowOk k row) : RowOk (k + 1) (rNew c row) := by
  refine ⟨by simp [rNew], ?_, fun p hp => ?_⟩
  · have := h.2.1; simp [rNew]; lia
  · unfold rNew at hp
    rcases List.mem_append.mp hp with hp | hp
    · have := h.2.2 p hp; lia
    · rw [List.mem_singleton.mp hp]; simp
theorem RowOk.cut {k c : Nat} {row : Row} (h : RowOk k row) : RowOk (k + 1) (rCut c row) := by
  have h1 : 0 < row.length := List.length_pos_iff.mpr h.1
  refine ⟨by simp [rCut], ?_, fun p hp => ?_⟩
  · have := h.2.1; simp [rCut]; lia
  · unfold rCut at hp
    rcases List.mem_append.mp hp with hp | hp
    · have := h.2.2 p (List.mem_of_mem_take hp); lia
    · have := h.2.2 _ (last_mem h.1)
      simp only [List.mem_cons, List.not_mem_nil, or_false] at hp
      rcases hp with rfl | rfl
      · rw [List.length_dropLast]; lia
      · simp
theorem dueR_ok (cs : List Nat) : ∀ k, ∀ row ∈ dueR cs k, RowOk k row
  | 0, row, h => by
    rw [List.mem_singleton.mp h]
    exact ⟨by simp, by simp, fun p hp => by rw [List.mem_singleton.mp hp]; simp⟩
  | k + 1, row, h => by
    have ih := dueR_ok cs k
    unfold dueR dueStep at h
    rcases List.mem_append.mp h with h | h
    · obtain ⟨r, hr, rfl⟩ := List.mem_map.mp h; exact (ih r hr).ext
    · split at h
      · rcases List.mem_append.mp h with h | h
        · obtain ⟨r, hr, rfl⟩ := List.mem_map.mp h; exact (ih r hr).new
        · split at h
          · obtain ⟨r, hr, rfl⟩ := List.mem_map.mp h; exact (ih r hr).cut
          · cases h
      · cases h
theorem dueR_len (cs : List Nat) : ∀ k, (dueR cs k).length ≤ 3 ^ k
  | 0 => by simp [dueR]
  | k + 1 => by
    have ih := dueR_len cs k
    have key : ∀ rows : List Row, (dueStep cs k rows).length ≤ 3 * rows.length := by
      intro rows
      unfold dueStep
      rw [List.length_append, List.length_map]
      split
      · rw [List.length_append, List.length_map]
        split
        · rw [List.length_map]; lia
        · rw [List.length_nil]; lia
      · rw [List.length_nil]; lia
    have := key (dueR cs k)
    show (dueStep cs k (dueR cs k)).length ≤ _
    rw [Nat.pow_succ]; lia

section
variable {g h h₁ : Heap} {L Lc c : Addr} {m mc : Str → Option Value} {mu : List (Addr × Obj)} {o : Obj}
theorem S.callee (s₀ : S g h Lc mc mu) (s₁ : S h h₁ L m [(c, o)]) : ∃ oL, NsObj oL mc ∧ S g h₁ L m ((c, o) :: (Lc, oL) :: mu) := by
  obtain ⟨oL, nL, s₂⟩ := s₀.enter s₁.keep s₁.gL s₁.ns
  have hc := s₁.off (c, o) (.head _)
  have ec : h₁.get? c = some o := s₁.has (c, o) (.head _)
  refine ⟨oL, nL, s₂.keep, s₂.ns, s₂.gL, fun p hp => ?_, fun p hp => ?_, ?_⟩
  · rcases List.mem_cons.mp hp with rfl | hp
    · exact ec
    · exact s₂.has p hp
  · rcases List.mem_cons.mp hp with rfl | hp
    · refine ⟨?_, hc.2⟩
      cases q : g.get? c with
      | none => rfl
      | some x => have := s₀.keep _ _ q; rw [hc.1] at this; cases this
    · exact s₂.off p hp
  · refine List.nodup_cons.mpr ⟨fun hm => ?_, s₂.nd⟩
    obtain ⟨p, hp, q⟩ := List.mem_map.mp hm
    have q' : p.1 = c := q
    rcases List.mem_cons.mp hp with rfl | hp
    · obtain ⟨oL', _, _, e, _⟩ := s₀.ns
      have q'' : Lc = c := q'
      rw [q''] at e; rw [hc.1] at e; cases e
    · have := s₀.has p hp; rw [q', hc.1] at this; cases this
end

section
variable {M : Model} {A : Around} {E : Value → Shared → Prop} {s : Shared} {h : Heap} {t : Nat} {env : Env} {x : Str} {v : Value} {Q : Unit → Shared → Prop} {m : Str → Option Value} {g : Heap} {L : Addr}
theorem st_cellM (pre post : List (Addr × Obj)) {c : Addr} {o : Obj} {v₀ : Option Value} (hs : S g h L m (pre ++ (c, o) :: post)) (ho : o.data = .cell v₀) (k : ∀ h' o', o'.data = .cell (some v) → S g h' L m (pre ++ (c, o') :: post) → Q () (St s h' t)) (hc : env.cells.lookup x = some c := by rfl)
    (hk : env.scope.kind = .function := by rfl) (hl : env.kindOf x = some .cell := by rfl) : wpAny M A (storeName env x v) Q E (St s h t) :=
  wpAny_storeName_cell (s := St s h t) hk hl hc ⟨o, hs.has (c, o) (by simp), ho⟩ fun h' hcell hsb => by
    obtain ⟨o', e, d⟩ := hcell
    exact k h' o' d (hs.updM (fun b x hb q => hsb.extBut b x hb q) e)
end
end Mine35
end

-- part Help35
section
set_option maxRecDepth 100000
set_option maxHeartbeats 4000000
set_option linter.unusedVariables false
namespace Mine35
open PySem PySem.W PySem.Calls PyProof.Rows
open PyProof.Rows.LCg (NsObj ns_obj lst lst_snoc)

section
variable {prog : Program} {w : World} {A : Around} {E : Value → Shared → Prop} {s : Shared} {env : Env} {h g : Heap} {L : Addr} {t : Nat}

theorem ev_neg1 {e : Nat} {p q : Pos} {Q : Value → Shared → Prop} (k : ∀ u t', Q (.int (-1) u) (St s h t')) : wpAny (model prog w) A (eval (.UnaryOp .USub (.Constant (.int 1) e p) q) env) Q E (St s h t) :=
  wpAny_UnaryOp (wpAny_Constant_int (P.neg_int (k _ _)))

theorem S.fr {m : Str → Option Value} {mu : List (Addr × Obj)} (s₀ : S g h L m mu) : Fr (⟨#[], h.2⟩ : Heap) L h m :=
  ⟨s₀.ns, fun b o e => absurd (e.symm.trans (Heap.get?_none_of_le (Nat.zero_le _))) (by simp), Nat.zero_le _⟩
theorem sz1 (v : Value) : [v].length ≤ sizeLine := by rw [sizeLine_eq]; exact (by decide : 1 ≤ 16777216)
theorem sz2 (v u : Value) : [v, u].length ≤ sizeLine := by rw [sizeLine_eq]; exact (by decide : 2 ≤ 16777216)

theorem mk_range1 {m : Str → Option Value} {mu : List (Addr × Obj)} {n : Int} {tk : Tok} {Q : Value → Shared → Prop} (s₀ : S g h L m mu)
    (k : ∀ r h' t' t₁ t₂ t₃, h.StaysIn h' → IsRange h' r 0 n 1 t₁ t₂ t₃ → Q (.ref r) (St s h' t')) : wpAny (model prog w) A (call (.type "range") [.int n tk]) Q E (St s h t) :=
  range1_rows (s := St s h t) s₀.fr News.nil fun h' tk t₁ u₁ v₁ hr _ _ hk => k _ _ _ _ _ _ hk hr
theorem mk_range2 {m : Str → Option Value} {mu : List (Addr × Obj)} {a n : Int} {tk uk : Tok} {Q : Value → Shared → Prop} (s₀ : S g h L m mu)
    (k : ∀ r h' t' t₁ t₂ t₃, h.StaysIn h' → IsRange h' r a n 1 t₁ t₂ t₃ → Q (.ref r) (St s h' t')) : wpAny (model prog w) A (call (.type "range") [.int a tk, .int n uk]) Q E (St s h t) :=
  range2_rows (s := St s h t) s₀.fr News.nil fun h' tk t₁ u₁ v₁ hr _ _ hk => k _ _ _ _ _ _ hk hr

theorem rsize {a : Int} {n : Nat} : Builtin.Range.rangeSize a (a + n) 1 = (n : Int) := by
  unfold Builtin.Range.rangeSize
  rw [if_pos (by decide)]
  split
  · rw [Int.ediv_one]; lia
  · lia
theorem rsmall {a : Int} {n : Nat} (h0 : 0 ≤ a) (h1 : a ≤ 100) (hn : n ≤ 1000) : Builtin.Range.small a (a + n) 1 = true := by
  unfold Builtin.Range.small
  rw [rsize]
  simp [Builtin.Range.rangeFitsLong]
  lia

theorem mk_list {m : Str → Option Value} {mu : List (Addr × Obj)} (vs : List Value) (s₀ : S g h L m mu) : ∃ g', g.StaysIn g' ∧ S g' (h.push (lo vs 0)) L m mu ∧ g'.get? h.objs.size = some (lo vs 0) := by
  obtain ⟨g', a, b, c⟩ := s₀.grow (stays_push h (lo vs 0))
  exact ⟨g', a, b, c _ _ (size_none h) (push_get _ _)⟩

theorem ev_list1 {m : Str → Option Value} {mu : List (Addr × Obj)} {e : Expr} {pos : Pos} {s₀ : Shared} {Q : Value → Shared → Prop}
    (H : wpAny (model prog w) A (eval e env) (fun v s₁ => ∃ g h t, s₁ = St s h t ∧ S g h L m mu ∧ ∀ a g' h', g.StaysIn g' → S g' h' L m mu → g'.get? a = some (lo [v] 0) → Q (.ref a) (St s h' t)) E s₀)
    (he : starEach [e] env = (false, eval e env) :: starEach [] env := by rfl) : wpAny (model prog w) A (eval (.List [e] pos) env) Q E s₀ := by
  refine wpAny_List (sp1 (wpAny_mono H (fun v s₁ h₁ => ?_) fun _ _ x => x) he)
  obtain ⟨g, h, t, rfl, sS, k⟩ := h₁
  obtain ⟨g', a, b, c⟩ := mk_list [v] sS
  exact ⟨sz1 _, k _ g' _ a b c⟩

theorem ev_list2 {m : Str → Option Value} {mu : List (Addr × Obj)} {e e' : Expr} {pos : Pos} {s₀ : Shared} {Q : Value → Shared → Prop}
    (H : wpAny (model prog w) A (eval e env) (fun v s₁ => wpAny (model prog w) A (eval e' env) (fun v' s₂ => ∃ g h t, s₂ = St s h t ∧ S g h L m mu ∧ ∀ a g' h', g.StaysIn g' → S g' h' L m mu → g'.get? a = some (lo [v, v'] 0) → Q (.ref a) (St s h' t)) E s₁) E s₀)
    (he : starEach [e, e'] env = (false, eval e env) :: starEach [e'] env := by rfl) (he' : starEach [e'] env = (false, eval e' env) :: starEach [] env := by rfl) : wpAny (model prog w) A (eval (.List [e, e'] pos) env) Q E s₀ := by
  refine wpAny_List (sp2 (wpAny_mono H (fun v s₁ h₁ => wpAny_mono h₁ (fun v' s₂ h₂ => ?_) fun _ _ x => x) fun _ _ x => x) he he')
  obtain ⟨g, h, t, rfl, sS, k⟩ := h₂
  obtain ⟨g', a, b, c⟩ := mk_list [v, v'] sS
  exact ⟨sz2 _ _, k _ g' _ a b c⟩

theorem eq_part {b : Bool} {v u : Value} {cs ds : List Nat} {Q : Value → Shared → Prop} (hv : Part b v cs) (hu : Part b u ds) (k : Q (.bool (cs == ds)) (St s h t)) : wpAny (model prog w) A (compareOp .Eq v u) Q E (St s h t) := by
  cases b with
  | false =>
    obtain ⟨x, t1, rfl, hx⟩ := hv.isS
    obtain ⟨y, t2, rfl, hy⟩ := hu.isS
    exact P.eq_str (by rw [hx, hy]; exact k)
  | true =>
    obtain ⟨x, t1, rfl, hx⟩ := hv.isB
    obtain ⟨y, t2, rfl, hy⟩ := hu.isB
    refine eq_bytes ?_
    have e : (x.toList == y.toList) = (cs == ds) := by
      rw [← hx, ← hy, Bool.eq_iff_iff]
      simp only [beq_iff_eq]
      exact ⟨fun e => by rw [e], fun e => List.map_inj_right (fun a b e => UInt8.toNat_inj.mp e) |>.mp e⟩
    rw [e]; exact k
theorem ne_part {b : Bool} {v u : Value} {cs ds : List Nat} {Q : Value → Shared → Prop} (hv : Part b v cs) (hu : Part b u ds) (k : Q (.bool (cs != ds)) (St s h t)) : wpAny (model prog w) A (compareOp .NotEq v u) Q E (St s h t) := by
  cases b with
  | false =>
    obtain ⟨x, t1, rfl, hx⟩ := hv.isS
    obtain ⟨y, t2, rfl, hy⟩ := hu.isS
    exact P.ne_str (by rw [hx, hy]; exact k)
  | true =>
    obtain ⟨x, t1, rfl, hx⟩ := hv.isB
    obtain ⟨y, t2, rfl, hy⟩ := hu.isB
    refine ne_bytes ?_
    have e : (x.toList == y.toList) = (cs == ds) := by
      rw [← hx, ← hy, Bool.eq_iff_iff]
      simp only [beq_iff_eq]
      exact ⟨fun e => by rw [e], fun e => List.map_inj_right (fun a b e => UInt8.toNat_inj.mp e) |>.mp e⟩
    have e' : (x.toList != y.toList) = (cs != ds) := congrArg (!·) e
    rw [e']; exact k

theorem PartL.unsnoc {b : Bool} : ∀ {vs : List Value} {cs : Row}, PartL b vs cs → cs ≠ [] → ∃ vs₀ v cs₀ c, vs = vs₀ ++ [v] ∧ cs = cs₀ ++ [c] ∧ PartL b vs₀ cs₀ ∧ Part b v c
  | [], [], _, hn => absurd rfl hn
  | [v], [c], h, _ => ⟨[], v, [], c, rfl, rfl, trivial, h.1⟩
  | v :: v' :: vs, c :: c' :: cs, h, _ => by
    obtain ⟨vs₀, u, cs₀, d, e1, e2, p, q⟩ := PartL.unsnoc h.2 (by simp)
    exact ⟨v :: vs₀, u, c :: cs₀, d, by rw [e1]; rfl, by rw [e2]; rfl, ⟨h.1, p⟩, q⟩
  | [], _ :: _, h, _ => h.elim
  | _ :: _, [], h, _ => h.elim
  | [_], _ :: _ :: _, h, _ => h.2.elim
  | _ :: _ :: _, [_], h, _ => h.2.elim

theorem rExt_snoc (c : Nat) (row : Row) (p : List Nat) : rExt c (row ++ [p]) = row ++ [p ++ [c]] := by simp [rExt]
theorem rCut_snoc (c : Nat) (row : Row) (p : List Nat) : rCut c (row ++ [p]) = row ++ [p.dropLast, [c]] := by simp [rCut]

/-- «xs.append(e)» as a statement -/
theorem ex_append {o arg : Expr} {apos pos spos : Pos} {s₀ : Shared} {Q : Flow → Shared → Prop}
    (H : wpAny (model prog w) A (eval o env) (fun ov s₁ => ∃ a vs n, ov = .ref a ∧ s₁.heap.get? a = some (lo vs n) ∧ vs.length ≤ 1000000 ∧ wpAny (model prog w) A (eval arg env) (fun v s₂ => s₂.heap.get? a = some (lo vs n) ∧
      ∀ h', Heap.SameBut a s₂.heap h' → h'.get? a = some (lo (vs ++ [v]) (n + 1)) → Q .next { s₂ with heap := h' }) E s₁) E s₀)
    (hi : interactive env = false := by rfl) (hsw : swapsWith (.Call (.Attribute o (Str.ofString "append") apos) [arg] [] pos) none spos.line env = pure false := by rfl)
    (hbase : attributeBase o (Str.ofString "append") env (eval o env) = eval o env := by rfl)
    (hfew : ((backTo pos (starEach [arg] env)).all (fun x => !x.1) && (backToKw pos (keywordEach [] env)).all (fun x => x.1.isSome)
      && decide ([arg].length + ([] : List Keyword).length + (if ([] : List Keyword).isEmpty then 0 else 1) < 30)) = true := by rfl)
    (hline : (apos.endLine == pos.line) = true := by rfl)
    (he : starEach [arg] env = (false, eval arg env) :: starEach [] env := by rfl) :
    wpAny (model prog w) A (exec (.Expr (.Call (.Attribute o (Str.ofString "append") apos) [arg] [] pos) spos) env) Q E s₀ := by
  refine wpAny_Expr (wpAny_Call_method (T := "list") (id := "list.append") hbase hfew hline F.plainAttrs_list F.slot_list_append F.type_list_append (wpAny_mono H (fun ov s₁ h₁ => ?_) fun _ _ x => x)) hi hsw
  obtain ⟨a, vs, n, rfl, ha, hz, h₁⟩ := h₁
  refine ⟨⟨_, ha, rfl⟩, fun a' e => by cases e; exact ⟨_, ha, rfl⟩, cw_m1 (wpAny_mono h₁ (fun v s₂ h₂ => ?_) fun _ _ x => x) he⟩
  refine append_at h₂.1 (fun h' hs' he' => h₂.2 h' hs' (he'.trans ?_)) (by rw [List.size_toArray, sizeLine_eq]; lia)
  rw [List.push_toArray]

end
end Mine35
end

-- part LawRows35
section
set_option maxRecDepth 100000
set_option maxHeartbeats 4000000
set_option linter.unusedVariables false
namespace Mine35
open PySem PySem.W PySem.Calls PyProof.Rows
open PyProof.Rows.LCg (NsObj ns_obj lst lst_snoc)

section
variable {prog : Program} {w : World} {A : Around} {E : Value → Shared → Prop} {s : Shared} {env : Env} {h g : Heap} {L : Addr} {t : Nat}

theorem lst_lo (ys : List Value) : lst ys = lo ys ys.length := rfl

theorem law_rows_spec {x : Str} {tk : Tok} {cs : List Nat} {Q : Value → Shared → Prop} {Lc : Addr} {mc : Str → Option Value} {muc : List (Addr × Obj)} {gc : Heap} (hw : Wd w gc) (sc : S gc h Lc mc muc) (hx : x.cps.toList = cs) (hn : cs.length ≤ 9) (hh : A.handled = none) (hroom : A.depth + 1 < recursionLimit)
    (k : ∀ a vs g' h' t', gc.StaysIn g' → S g' h' Lc mc muc → g'.IsList a vs.toArray → All2 (RowsAt false g') vs ((List.range cs.length).map fun k => dueR cs (k + 1)) → Q (.ref a) (St s h' t')) :
    wpAny (model prog w) A (call (.ref 139) [.str x tk]) Q E (St s h t) := by
  refine call_fnC1 (hw.mono sc.keep) (f := 139) (c := Str.ofString "sign") (binds := [(Str.ofString "text", .str x tk)]) rfl rfl (by lia) rfl (fun _ => rfl) (locs rfl) ?_
  intro L h₁ t₁ E' oS hoS s₀
  obtain ⟨oL, nL, s₁⟩ := sc.callee s₀
  have hlen : x.length = cs.length := lenS hx
  refine wpAny_execs_cons (wpAny_Assign_Name (wpAny_List (wpAny_items_nil ⟨by decide, ?_⟩)))
  have s₂ := s₁.new (stays_push _ _) (size_none h₁) (push_get h₁ (lo [] 0))
  generalize h₁.objs.size = aT at s₂ ⊢
  refine st_local s₂ fun h₂ s₃ => ?_
  refine wpAny_execs_cons (wpAny_Assign_Name (ev_list1 (s := s) (ev_list1 (s := s) (Calls.Constant_str ⟨gc, h₂, _, rfl, s₃, fun a₁ g₃ h₃ gk₃ s₃' e₃ => ⟨g₃, h₃, _, rfl, s₃', fun a₂ g₄ h₄ gk₄ s₄ e₄ => ?_⟩⟩))))
  have rows0 : RowsAt false g₄ (.ref a₂) (dueR cs 0) :=
    ⟨_, [.ref a₁], rfl, ⟨_, e₄, rfl, _, rfl⟩, ⟨_, _, rfl, ⟨_, gk₄ _ _ e₃, rfl, _, rfl⟩, .mkS rfl, trivial⟩, trivial⟩
  refine st_local s₄ fun h₅ s₅ => ?_
  have hw₅ := hw.mono (stays_trans (stays_trans gk₃ gk₄) s₅.keep)
  refine wpAny_execs_cons (wpAny_For (wpAny_Call_ofName (ev_boot hw₅ rfl rfl (cw_ty (sp1 (wpAny_Call_ofName (ev_boot hw₅ rfl rfl (cw_bi (sp1 (ev_local s₅ rfl (P.len_str (by rw [hlen]; lia) (mk_range1 s₅ fun r h₆ t₆ u₁ u₂ u₃ k₆ hr => ?_)))))))))))) 
  refine for_range (s := s) (n := cs.length)
    (fun i g m mu => ∃ oS tvs n rv, mu = (aT, lo tvs n) :: (L + 1, oS) :: (Lc, oL) :: muc ∧ (∃ v0, oS.data = .cell v0) ∧ m (Str.ofString "told") = some (.ref aT) ∧ m (Str.ofString "rows") = some rv ∧ m (Str.ofString "text") = some (.str x tk) ∧
      RowsAt false g rv (dueR cs i) ∧ All2 (RowsAt false g) tvs ((List.range i).map fun k => dueR cs (k + 1)))
    hh hr (by rw [hlen]; simpa using rsize (a := 0) (n := cs.length)) (by rw [hlen]; simpa using rsmall (a := 0) (n := cs.length) (by decide) (by decide) (by lia)) (s₅.stays k₆) ⟨oS, [], 0, .ref a₂, rfl, ⟨none, hoS⟩, rfl, rfl, rfl, rows0, trivial⟩ ?_ ?_
  · rintro i tk' g' h' t' m' mu' I oI E'' hi gk ⟨oS', tvs, n, rv, rfl, ⟨v0, hv0⟩, hT, hR, hX, rAt, tAt⟩ sS
    have hci : cs[i]? = some (cs.getD i 0) := by rw [List.getD_eq_getElem?_getD, List.getElem?_eq_getElem hi]; rfl
    have hxi : x.cps[i]? = some (cs.getD i 0) := by rw [← Array.getElem?_toList, hx]; exact hci
    have hi9 : i < 9 := Nat.lt_of_lt_of_le hi hn
    have hrl : (dueR cs i).length ≤ 19683 := Nat.le_trans (dueR_len cs i) (Nat.le_trans (Nat.pow_le_pow_right (by decide) (Nat.le_of_lt hi9)) (by decide))
    have hok := dueR_ok cs i
    generalize hce : cs.getD i 0 = c at hci hxi
    -- sign = text[k]
    refine wpAny_execs_cons (wpAny_Assign_Name (Subscript_ (ev_local sS hX (ev_local sS rfl (subscriptTail_builtin (typeIs_str _ _ _) F.slot_str_getitem.lookup (P.getItem_str (c := c) (by simp; lia) ?_ ?_))))))
    · have : seqIndex? (0 + (i : Int)) x.length = some i := by
        unfold seqIndex?; rw [hlen]; simp; lia
      rw [this]; exact hxi
    refine st_cellM [(I, oI), (aT, lo tvs n)] ((Lc, oL) :: muc) sS hv0 fun h₁ oS₁ hS₁ s₁ => ?_
    simp only [List.cons_append, List.nil_append] at s₁
    -- grown = [row[:-1] + [row[-1] + sign] for row in rows]
    refine wpAny_execs_cons (as_comp (s := s) (ev_local s₁ hR (CompL.rows (b := false) (b' := false) (rExt c) hh s₁ rAt (by lia) ?_ ?_)))
    · intro rv₁ row g₁ h₂ t₂ C m₂ MU E₃ hrow hra gk₁ sE hm hmu
      obtain ⟨a, vs, rfl, hl, hp⟩ := hra
      obtain ⟨rn, rl, rp⟩ := hok row hrow
      obtain ⟨vs₀, v, row₀, p, rfl, rfl, hp₀, hvp⟩ := hp.unsnoc rn
      have hvl : vs₀.length ≤ 100 := by have := hp₀.length; simp at rl; lia
      have hpl : p.length ≤ 100 := by have := rp p (by simp); lia
      have hsg : ∀ {g h}, S g h C m₂ MU → h.IsCell (L + 1) (some (.str ⟨#[c]⟩ _)) := fun s' => ⟨oS₁, s'.has (L + 1, oS₁) (hmu _ (by simp)), hS₁⟩
      refine wpAny_BinOp (ev_init (ev_local sE hm (ev_neg1 fun u t₃ => ⟨a, vs₀ ++ [v], u, rfl, rfl, isList_mono sE.keep hl, by simp; lia, fun a₁ h₃ k₃ n₃ e₃ => ?_⟩)))
      obtain ⟨g₃, gk₃', s₃', new₃⟩ := sE.grow k₃
      refine ev_list1 (s := s) (L := C) (m := m₂) (mu := MU) (wpAny_BinOp (ev_last (ev_local s₃' hm (ev_neg1 fun u t₄ => ⟨a, vs₀, u, v, rfl, rfl, isList_mono (stays_trans gk₃' s₃'.keep) hl, ?_⟩))))
      refine ev_cell rfl (hsg s₃') (add_part hvp (.mkS rfl : Part false (.str ⟨#[c]⟩ _) [c]) (by simp; lia) fun r t₅ hr => ⟨g₃, h₃, t₅, rfl, s₃', fun a₂ g₄ h₄ gk₄' s₄' e₄' => ?_⟩)
      refine add_list (vs := vs₀) (ws := [r]) s₄' ⟨_, s₄'.keep _ _ (gk₄' _ _ (new₃ _ _ n₃ e₃)), rfl, 0, by simp⟩ ⟨_, s₄'.keep _ _ e₄', rfl, _, rfl⟩ (by simp; lia) fun a₃ h₅ k₅ n₅ e₅ => ?_
      obtain ⟨g₅, gk₅, s₅', new₅⟩ := s₄'.grow k₅
      refine ⟨g₅, h₅, _, rfl, stays_trans gk₃' (stays_trans gk₄' gk₅), s₅', a₃, vs₀ ++ [r], rfl, ⟨_, new₅ _ _ n₅ e₅, rfl, _, rfl⟩, ?_⟩
      rw [rExt_snoc]
      exact hp₀.snoc hr
    · intro D g₂ h₂ t₂ ys gk₂ hys _ h₃ t₃ s₃'
      have kgrow : dueR cs (i + 1) = (dueR cs i).map (rExt c) ++ (if (c != 47 && (decide (0 < i) && cs.getD (i - 1) 0 == 47)) = true then
          (dueR cs i).map (rNew c) ++ (if (decide (1 < i) && cs.getD (i - 2) 0 != 47) = true then (dueR cs i).map (rCut c) else []) else []) := by
        show dueStep cs i (dueR cs i) = _
        unfold dueStep; rw [hce]
      have hsg : ∀ {g h m pre}, S g h L m (pre ++ (L + 1, oS₁) :: (Lc, oL) :: muc) → h.IsCell (L + 1) (some (.str ⟨#[c]⟩ _)) := fun s' => ⟨oS₁, s'.has (L + 1, oS₁) (by simp), hS₁⟩
      have hitem : ∀ j, j ≤ i → x.cps[i - j]? = some (cs.getD (i - j) 0) := fun j hj => by
        rw [← Array.getElem?_toList, hx, List.getD_eq_getElem?_getD, List.getElem?_eq_getElem (by lia)]; rfl
      refine wpAny_execs_cons (wpAny_mono (Q := fun f s' => f = .next ∧ ∃ g₄ h₄ t₄ ys₄ n₄ m₄, s' = St s h₄ t₄ ∧ g₂.StaysIn g₄ ∧ All2 (RowAt false g₄) ys₄ (dueR cs (i + 1)) ∧
        (m₄ (Str.ofString "told") = some (.ref aT) ∧ m₄ (Str.ofString "rows") = some rv ∧ m₄ (Str.ofString "text") = some (.str x tk) ∧ m₄ (Str.ofString "grown") = some (.ref D)) ∧
        S g₄ h₄ L m₄ ((D, lo ys₄ n₄) :: (I, oI) :: (aT, lo tvs n) :: (L + 1, oS₁) :: (Lc, oL) :: muc)) ?_ ?_ fun _ _ e => e)
      · have fin : ∀ {g₄ h₄ : Heap} {t₄ n₄ : Nat} {ys₄ : List Value} {m₄ : Str → Option Value}, S g₄ h₄ L m₄ ((D, lo ys₄ n₄) :: (I, oI) :: (aT, lo tvs n) :: (L + 1, oS₁) :: (Lc, oL) :: muc) → g₂.StaysIn g₄ → All2 (RowAt false g₄) ys₄ (dueR cs (i + 1)) →
            m₄ (Str.ofString "told") = some (.ref aT) → m₄ (Str.ofString "rows") = some rv → m₄ (Str.ofString "text") = some (.str x tk) → m₄ (Str.ofString "grown") = some (.ref D) →
            (Flow.next = .next ∧ ∃ g₅ h₅ t₅ ys₅ n₅ m₅, St s h₄ t₄ = St s h₅ t₅ ∧ g₂.StaysIn g₅ ∧ All2 (RowAt false g₅) ys₅ (dueR cs (i + 1)) ∧
              (m₅ (Str.ofString "told") = some (.ref aT) ∧ m₅ (Str.ofString "rows") = some rv ∧ m₅ (Str.ofString "text") = some (.str x tk) ∧ m₅ (Str.ofString "grown") = some (.ref D)) ∧
              S g₅ h₅ L m₅ ((D, lo ys₅ n₅) :: (I, oI) :: (aT, lo tvs n) :: (L + 1, oS₁) :: (Lc, oL) :: muc)) := fun sF gF yF a1 a2 a3 a4 => ⟨rfl, _, _, _, _, _, _, rfl, gF, yF, ⟨a1, a2, a3, a4⟩, sF⟩
        refine wpAny_If (wpAny_isTrue_BoolOp (wpAny_allTrue_And_cons (wpAny_isTrue_Compare1 (ev_cell rfl (hsg (pre := [_, _, _]) s₃') (Calls.Constant_str (ne_part (b := false) (cs := [c]) (ds := [47]) (.mkS rfl) (.mkS rfl) (wpAny_truthy_bool ?_)))))))
        have e1 : ([c] != [47]) = (c != 47) := by rw [Bool.eq_iff_iff]; simp
        rw [e1]
        cases hc1 : (c != 47) with
        | false =>
          refine wpAny_execs_nil (fin s₃' (stays_refl _) ?_ hT hR hX rfl)
          rw [kgrow, hc1, Bool.false_and, if_neg Bool.false_ne_true, List.append_nil]; exact hys
        | true =>
        refine wpAny_allTrue_And_cons (wpAny_isTrue_Compare1 (ev_local s₃' rfl (wpAny_Constant_int (PyProof.Rows.gt_int (wpAny_truthy_bool ?_)))))
        have e2 : decide ((0 : Int) < 0 + (i : Int)) = decide (0 < i) := by congr 1; simp
        rw [e2]
        cases hc2 : decide (0 < i) with
        | false =>
          refine wpAny_execs_nil (fin s₃' (stays_refl _) ?_ hT hR hX rfl)
          rw [kgrow, hc1, hc2, Bool.true_and, Bool.false_and, if_neg Bool.false_ne_true, List.append_nil]; exact hys
        | true =>
        have hi1 : 1 ≤ i := of_decide_eq_true hc2
        refine wpAny_allTrue_And_cons (wpAny_isTrue_Compare1 (Subscript_ (ev_local s₃' hX (wpAny_BinOp (ev_local s₃' rfl (wpAny_Constant_int (PyProof.Rows.sub_int (subscriptTail_builtin (typeIs_str _ _ _) F.slot_str_getitem.lookup (P.getItem_str (c := cs.getD (i - 1) 0) (by simp; lia) ?_ (Calls.Constant_str (eq_part (b := false) (cs := [cs.getD (i - 1) 0]) (ds := [47]) (.mkS rfl) (.mkS rfl) (wpAny_truthy_bool ?_))))))))))))
        · have : seqIndex? (0 + (i : Int) - 1) x.length = some (i - 1) := by
            unfold seqIndex?; rw [hlen]; simp; lia
          rw [this]; exact hitem 1 hi1
        have e3 : ([cs.getD (i - 1) 0] == [47]) = (cs.getD (i - 1) 0 == 47) := by rw [Bool.eq_iff_iff]; simp
        rw [e3]
        cases hc3 : (cs.getD (i - 1) 0 == 47) with
        | false =>
          refine wpAny_execs_nil (fin s₃' (stays_refl _) ?_ hT hR hX rfl)
          rw [kgrow, hc1, hc2, hc3, Bool.true_and, Bool.true_and, if_neg Bool.false_ne_true, List.append_nil]; exact hys
        | true =>
        refine wpAny_allTrue_And_nil ?_
        -- grown += [row + [sign] for row in rows]
        refine wpAny_execs_cons (wpAny_AugAssign_Name (ld_local s₃' rfl (ev_comp (s := s) (ev_local s₃' hR (CompL.rows (b := false) (b' := false) (rNew c) hh s₃' (rAt.mono gk₂) (by lia) ?_ ?_)))))
        · intro rv₁ row g₁ h₅ t₅ C m₂ MU E₃ hrow hra gk₁ sE hm hmu
          obtain ⟨a, vs, rfl, hl, hp⟩ := hra
          obtain ⟨rn, rl, rp⟩ := hok row hrow
          have hvl : vs.length ≤ 100 := by have := hp.length; lia
          refine wpAny_BinOp (ev_local sE hm (ev_list1 (s := s) (L := C) (m := m₂) (mu := MU) (ev_cell rfl ⟨oS₁, sE.has (L + 1, oS₁) (hmu _ (by simp)), hS₁⟩ ⟨g₁, h₅, _, rfl, sE, fun a₂ g₆ h₆ gk₆ s₆ e₆ => ?_⟩)))
          refine add_list (vs := vs) (ws := [.str ⟨#[c]⟩ _]) s₆ (isList_mono (stays_trans gk₆ s₆.keep) hl) ⟨_, s₆.keep _ _ e₆, rfl, _, rfl⟩ (by simp; lia) fun a₃ h₇ k₇ n₇ e₇ => ?_
          obtain ⟨g₇, gk₇, s₇, new₇⟩ := s₆.grow k₇
          refine ⟨g₇, h₇, _, rfl, stays_trans gk₆ gk₇, s₇, a₃, _, rfl, ⟨_, new₇ _ _ n₇ e₇, rfl, _, rfl⟩, ?_⟩
          exact hp.snoc (.mkS rfl)
        intro D₂ g₅ h₅ t₅ ys₂ gk₅ hys₂ s₅'
        have hl1 : ys.length ≤ 19683 := by rw [hys.length, List.length_map]; exact hrl
        have hl2 : ys₂.length ≤ 19683 := by rw [hys₂.length, List.length_map]; exact hrl
        refine iadd_list s₅'.forget ⟨_, s₅'.has _ (.head _), rfl, _, rfl⟩ (by lia) fun h₆ n₆ s₆ => st_local s₆ fun h₇ s₇ => ?_
        have hy2 : All2 (RowAt false g₅) (ys ++ ys₂) ((dueR cs i).map (rExt c) ++ (dueR cs i).map (rNew c)) := (hys.mono fun _ _ r => r.mono gk₅).append hys₂
        -- if k > 1 and text[k - 2] != '/'
        refine wpAny_execs_cons (wpAny_If (wpAny_isTrue_BoolOp (wpAny_allTrue_And_cons (wpAny_isTrue_Compare1 (ev_local s₇ rfl (wpAny_Constant_int (PyProof.Rows.gt_int (wpAny_truthy_bool ?_))))))))
        have e4 : decide ((1 : Int) < 0 + (i : Int)) = decide (1 < i) := by rw [Bool.eq_iff_iff]; simp; lia
        rw [e4]
        cases hc4 : decide (1 < i) with
        | false =>
          refine wpAny_execs_nil (wpAny_execs_nil (fin s₇ gk₅ ?_ hT hR hX rfl))
          rw [kgrow, hc1, hc2, hc3, hc4]; simpa using hy2
        | true =>
        have hi2 : 2 ≤ i := of_decide_eq_true hc4
        refine wpAny_allTrue_And_cons (wpAny_isTrue_Compare1 (Subscript_ (ev_local s₇ hX (wpAny_BinOp (ev_local s₇ rfl (wpAny_Constant_int (PyProof.Rows.sub_int (subscriptTail_builtin (typeIs_str _ _ _) F.slot_str_getitem.lookup (P.getItem_str (c := cs.getD (i - 2) 0) (by simp; lia) ?_ (Calls.Constant_str (ne_part (b := false) (cs := [cs.getD (i - 2) 0]) (ds := [47]) (.mkS rfl) (.mkS rfl) (wpAny_truthy_bool ?_))))))))))))
        · have : seqIndex? (0 + (i : Int) - 2) x.length = some (i - 2) := by
            unfold seqIndex?; rw [hlen]; simp; lia
          rw [this]; exact hitem 2 hi2
        have e5 : ([cs.getD (i - 2) 0] != [47]) = (cs.getD (i - 2) 0 != 47) := by rw [Bool.eq_iff_iff]; simp
        rw [e5]
        cases hc5 : (cs.getD (i - 2) 0 != 47) with
        | false =>
          refine wpAny_execs_nil (wpAny_execs_nil (fin s₇ gk₅ ?_ hT hR hX rfl))
          rw [kgrow, hc1, hc2, hc3, hc4, hc5]; simpa using hy2
        | true =>
        refine wpAny_allTrue_And_nil ?_
        -- grown += [row[:-1] + [row[-1][:-1], sign] for row in rows]
        refine wpAny_execs_cons (wpAny_AugAssign_Name (ld_local s₇ rfl (ev_comp (s := s) (ev_local s₇ hR (CompL.rows (b := false) (b' := false) (rCut c) hh s₇ (rAt.mono (stays_trans gk₂ gk₅)) (by lia) ?_ ?_)))))
        · intro rv₁ row g₁ h₈ t₈ C m₂ MU E₃ hrow hra gk₁ sE hm hmu
          obtain ⟨a, vs, rfl, hl, hp⟩ := hra
          obtain ⟨rn, rl, rp⟩ := hok row hrow
          obtain ⟨vs₀, v, row₀, p, rfl, rfl, hp₀, hvp⟩ := hp.unsnoc rn
          have hvl : vs₀.length ≤ 100 := by have := hp₀.length; simp at rl; lia
          have hpl : p.length ≤ 100 := by have := rp p (by simp); lia
          refine wpAny_BinOp (ev_init (ev_local sE hm (ev_neg1 fun u t₉ => ⟨a, vs₀ ++ [v], u, rfl, rfl, isList_mono sE.keep hl, by simp; lia, fun a₁ h₉ k₉ n₉ e₉ => ?_⟩)))
          obtain ⟨g₉, gk₉, s₉, new₉⟩ := sE.grow k₉
          refine ev_list2 (s := s) (L := C) (m := m₂) (mu := MU) (ev_cut (b := false) (ev_last (ev_local s₉ hm (ev_neg1 fun u t' => ⟨a, vs₀, u, v, rfl, rfl, isList_mono (stays_trans gk₉ s₉.keep) hl, wpAny_evalPart_none (wpAny_evalPart_some (ev_neg1 fun u' t'' => ⟨p, none, some (-1), hvp, .none, .int _ _, by lia, fun r hA tA kA hr => ?_⟩))⟩))))
          rw [cut_init] at hr
          have sA := s₉.stays kA
          refine ev_cell rfl ⟨oS₁, sA.has (L + 1, oS₁) (hmu _ (by simp)), hS₁⟩ ⟨g₉, hA, _, rfl, sA, fun a₂ g₆' h₆' gk₆' s₆' e₆' => ?_⟩
          refine add_list (vs := vs₀) (ws := [r, .str ⟨#[c]⟩ _]) s₆' ⟨_, s₆'.keep _ _ (gk₆' _ _ (new₉ _ _ n₉ e₉)), rfl, 0, by simp⟩ ⟨_, s₆'.keep _ _ e₆', rfl, _, rfl⟩ (by simp; lia) fun a₃ hB kB nB eB => ?_
          obtain ⟨gB, gkB, sB, newB⟩ := s₆'.grow kB
          refine ⟨gB, hB, _, rfl, stays_trans gk₉ (stays_trans gk₆' gkB), sB, a₃, _, rfl, ⟨_, newB _ _ nB eB, rfl, _, rfl⟩, ?_⟩
          rw [rCut_snoc]
          exact hp₀.append ⟨hr, .mkS rfl, trivial⟩
        intro D₃ g₈ h₈ t₈ ys₃ gk₈ hys₃ s₈
        have hl3 : ys₃.length ≤ 19683 := by rw [hys₃.length, List.length_map]; exact hrl
        refine iadd_list s₈.forget ⟨_, s₈.has _ (.head _), rfl, _, rfl⟩ (by simp; lia) fun h₉ n₉ s₉ => st_local s₉ fun hA sA => ?_
        refine wpAny_execs_nil (wpAny_execs_nil (fin sA (stays_trans gk₅ gk₈) ?_ hT hR hX rfl))
        have hy3 := (hy2.mono fun _ _ r => r.mono gk₈).append hys₃
        rw [kgrow, hc1, hc2, hc3, hc4, hc5]; simpa using hy3
      · rintro f s' ⟨rfl, g₄, h₄, t₄, ys₄, n₄, m₄, rfl, gk₄', hys₄, ⟨k1, k2, k3, k4⟩, s₄'⟩
        refine wpAny_execs_cons (wpAny_Assign_Name (ev_local s₄' k4 (st_local s₄' fun h₅ s₅' => ?_)))
        refine wpAny_execs_cons (ex_append (ev_local s₅' k1 ⟨aT, tvs, n, rfl, s₅'.has (aT, lo tvs n) (by simp), by rw [tAt.length]; simp; lia, ev_local s₅' rfl ⟨s₅'.has (aT, lo tvs n) (by simp), fun h₆ hs₆ e₆ => ?_⟩⟩))
        have s₆' := S.updM (pre := [(D, lo ys₄ n₄), (I, oI)]) s₅' (fun b o hb e => hs₆.extBut b o hb e) e₆
        obtain ⟨g₇, gk₇, eD, s₇⟩ := s₆'.freeze1
        have rD : RowsAt false g₇ (.ref D) (dueR cs (i + 1)) := ⟨D, ys₄, rfl, ⟨_, eD, rfl, _, rfl⟩, hys₄.mono fun _ _ r => r.mono gk₇⟩
        refine wpAny_execs_nil (turned s₇ (stays_trans gk₂ (stays_trans gk₄' gk₇)) ⟨oS₁, tvs ++ [.ref D], n + 1, .ref D, rfl, ⟨_, hS₁⟩, k1, rfl, k3, rD, ?_⟩)
        rw [List.range_succ, List.map_append]
        exact (tAt.mono fun _ _ r => r.mono (stays_trans gk₂ (stays_trans gk₄' gk₇))).append (All2.one rD)
  · rintro g' h' t' m' mu' gk ⟨oS', tvs, n, rv, rfl, ⟨v0, hv0⟩, hT, hR, hX, rAt, tAt⟩ sS
    refine wpAny_execs_cons (wpAny_Return_some (ev_local sS hT ?_))
    obtain ⟨g₇, gk₇, e₇, s₇⟩ := sS.freeze1
    exact k aT tvs g₇ h' _ (stays_trans (stays_trans gk₃ gk₄) (stays_trans gk gk₇)) (s₇.forget.leave nL) ⟨_, e₇, rfl, _, rfl⟩ (tAt.mono fun _ _ r => r.mono gk₇)
end
end Mine35
end

-- part Cmp35
section
set_option maxRecDepth 100000
set_option maxHeartbeats 4000000
set_option linter.unusedVariables false
namespace Mine35
open PySem PySem.W PySem.Calls PyProof.Rows

theorem order_lt : ∀ a b : List UInt8, (Builtin.Bytes.order a b == .lt) = decide (a.map (·.toNat) < b.map (·.toNat))
  | [], [] => by simp [Builtin.Bytes.order]
  | [], _ :: _ => by simp [Builtin.Bytes.order]
  | _ :: _, [] => by simp [Builtin.Bytes.order]
  | x :: xs, y :: ys => by
    have ih := order_lt xs ys
    unfold Builtin.Bytes.order
    by_cases h : x < y
    · rw [if_pos h]
      have : x.toNat < y.toNat := h
      simp [List.cons_lt_cons_iff, this]
    · rw [if_neg h]
      have h' : ¬ x.toNat < y.toNat := h
      by_cases h2 : x > y
      · rw [if_pos h2]
        have : y.toNat < x.toNat := h2
        have hne : x.toNat ≠ y.toNat := by lia
        simp [List.cons_lt_cons_iff, h', hne]
      · rw [if_neg h2, ih]
        have h2' : ¬ y.toNat < x.toNat := h2
        have he : x.toNat = y.toNat := by lia
        simp [List.cons_lt_cons_iff, he]

section
variable {prog : Program} {w : World} {A : Around} {E : Value → Shared → Prop} {s : Shared} {b : Bool} {v u : Value} {cs ds : List Nat}

theorem slot_blt : Slot "bytes" (cmpInfo .Lt).2.1 "bytes.__lt__" :=
  .of (owner := "bytes") (n := "__lt__") (by rw [typeLookup_type, builtinLookup_eq_fast]; kernel_rfl) (by decide +kernel) (by decide +kernel) (by decide +kernel)
    (by first | exact .inl (by decide +kernel) | exact .inr (by decide +kernel)) (by rw [isSubtype_type]; kernel_rfl)
theorem entry_blt : entryFor table "bytes.__lt__" = some Builtin.«bytes.__lt__» := entryFor_of_tree (by kernel_rfl)
theorem gives_blt (x y : Array UInt8) (t u : Tok) : Gives (Builtin.«bytes.__lt__» ⟨[.bytes x t, .bytes y u], []⟩) (.val (.bool (Builtin.Bytes.order x.toList y.toList == .lt))) := .of_eq (by kernel_rfl)
theorem args_blt (a b : Value) : argsOk "bytes.__lt__" ⟨[a, b], []⟩ := by unfold argsOk; kernel_rfl

theorem lt_part {Q : Value → Shared → Prop} (hv : Part b v cs) (hu : Part b u ds) (k : Q (.bool (decide (cs < ds))) s) : wpAny (model prog w) A (richCompare .Lt v u) Q E s := by
  cases b with
  | false =>
    obtain ⟨x, t1, rfl, hx⟩ := hv.isS
    obtain ⟨y, t2, rfl, hy⟩ := hu.isS
    have := P.lt_str (prog := prog) (w := w) (A := A) (E := E) (s := s) (x := x) (y := y) (t := t1) (u := t2) (Q := Q) (by rw [hx, hy]; exact k)
    exact this
  | true =>
    obtain ⟨x, t1, rfl, hx⟩ := hv.isB
    obtain ⟨y, t2, rfl, hy⟩ := hu.isB
    have := compareOp_gives (prog := prog) (w := w) (A := A) (E := E) (s := s) (op := .Lt) (Q := Q) (T := "bytes") (a := .bytes x t1) (b := .bytes y t2) rfl rfl slot_blt entry_blt (args_blt _ _) (gives_blt x y t1 t2) (fun e => nomatch e) (by show Q _ _; rw [order_lt, hx, hy]; exact k)
    exact this

theorem eqBool_part {Q : Bool → Shared → Prop} (hv : Part b v cs) (hu : Part b u ds) (k : Q (decide (cs = ds)) s) : wpAny (model prog w) A (eqBool v u) Q E s := by
  cases b with
  | false =>
    obtain ⟨x, t1, rfl, hx⟩ := hv.isS
    obtain ⟨y, t2, rfl, hy⟩ := hu.isS
    refine wpAny_eqBool_str ?_
    have e : decide (x = y) = decide (cs = ds) := by
      rw [← hx, ← hy]
      refine decide_eq_decide.mpr ⟨fun e => by rw [e], fun e => ?_⟩
      obtain ⟨⟨l⟩⟩ := x; obtain ⟨⟨l'⟩⟩ := y
      have : l = l' := e
      rw [this]
    rw [e]; exact k
  | true =>
    obtain ⟨x, t1, rfl, hx⟩ := hv.isB
    obtain ⟨y, t2, rfl, hy⟩ := hu.isB
    have e : (x.toList == y.toList) = decide (cs = ds) := by
      rw [← hx, ← hy, Bool.eq_iff_iff, decide_eq_true_iff, beq_iff_eq]
      exact ⟨fun e => by rw [e], fun e => List.map_inj_right (fun a b e => UInt8.toNat_inj.mp e) |>.mp e⟩
    unfold eqBool
    refine wpAny_holding ?_
    by_cases hb : (Value.bytes x t1 == Value.bytes y t2) = true
    · rw [if_pos hb]
      have := eq_of_beq hb
      cases this
      have : decide (cs = ds) = true := by rw [← e]; simp
      rw [this] at k
      exact wpAny_bind (wpAny_rule (wpAny_pure k))
    · rw [if_neg hb]
      have := eq_bytes (prog := prog) (w := w) (A := A) (E := E) (s := s) (b := x) (c := y) (t := t1) (u := t2) (Q := fun r s' => wpAny (model prog w) A (truthOfDropped r) Q E s') (wpAny_truthy_bool (by rw [e]; exact k))
      exact wpAny_bind this
end
end Mine35
end

-- part RowCmp35
section
set_option maxRecDepth 100000
set_option maxHeartbeats 4000000
set_option linter.unusedVariables false
namespace Mine35
open PySem PySem.W PySem.Calls PyProof.Rows

section
variable {prog : Program} {w : World} {A : Around} {E : Value → Shared → Prop} {s : Shared} {b : Bool}

theorem entry_leq : entryFor table "list.__eq__.loop" = some Builtin.«list.__eq__.loop» := entryFor_of_tree (by kernel_rfl)

theorem PartL.drop {b : Bool} : ∀ {vs : List Value} {cs : Row} (n : Nat), PartL b vs cs → PartL b (vs.drop n) (cs.drop n)
  | _, _, 0, h => h
  | [], [], _ + 1, _ => trivial
  | _ :: _, _ :: _, n + 1, h => PartL.drop n h.2
  | [], _ :: _, _ + 1, h => h.elim
  | _ :: _, [], _ + 1, h => h.elim

theorem PartL.get2 {b : Bool} {vs : List Value} {cs : Row} (h : PartL b vs cs) {i : Nat} {v : Value} (e : vs[i]? = some v) : ∃ c, cs.drop i = c :: cs.drop (i + 1) ∧ Part b v c := by
  obtain ⟨c, e', p⟩ := h.get e
  obtain ⟨hi, rfl⟩ := List.getElem?_eq_some_iff.mp e'
  exact ⟨_, (List.drop_eq_getElem_cons hi), p⟩

theorem loop_lt {x y : Addr} {vs ws : List Value} {r q : Row} {R : Result → Shared → Prop} (hx : s.heap.IsList x vs.toArray) (hy : s.heap.IsList y ws.toArray) (pv : PartL b vs r) (pw : PartL b ws q) :
    ∀ (k i : Nat), vs.length - i = k → i ≤ vs.length → i ≤ ws.length → (R (.ok (.ret (.bool (decide (r.drop i < q.drop i))))) s) → codeAny (model prog w) A (.builtin "list.__eq__.loop" ⟨[.ref x, .ref y, rawInt (i : Int), rawInt 0], []⟩) R s := by
  obtain ⟨ox, ex, cx, nx, dx⟩ := hx
  obtain ⟨oy, ey, cy, ny, dy⟩ := hy
  intro k
  induction k with
  | zero =>
    intro i hk h1 h2 hR
    refine codeAny_builtin entry_leq ?_
    show wpAny _ _ (Builtin.List.listItems (.ref x) >>= fun _ => _) _ _ s
    refine wpAny_bind (listItems_at ex dx (wpAny_bind (listItems_at ey dy ?_)))
    have e1 : vs.toArray[(i : Int).toNat]? = none := by simp; lia
    rw [e1]
    refine wpAny_bind (listItems_at ex dx (wpAny_bind (listItems_at ey dy ?_)))
    refine wpAny_pure ?_
    show R (.ok (.ret (.bool (decide (vs.toArray.size < ws.toArray.size))))) s
    have e : decide (vs.toArray.size < ws.toArray.size) = decide (r.drop i < q.drop i) := by
      have hr : r.drop i = [] := List.drop_of_length_le (by rw [← pv.length]; lia)
      rw [hr]
      cases hq : ws[i]? with
      | none =>
        have : ws.length ≤ i := by simpa using hq
        have hq' : q.drop i = [] := List.drop_of_length_le (by rw [← pw.length]; lia)
        rw [hq']; simp; lia
      | some v =>
        obtain ⟨c, hc, _⟩ := pw.get2 hq
        have : i < ws.length := (List.getElem?_eq_some_iff.mp hq).1
        rw [hc]; simp; lia
    rw [e]; exact hR
  | succ k ih =>
    intro i hk h1 h2 hR
    have hi : i < vs.length := by lia
    refine codeAny_builtin entry_leq ?_
    show wpAny _ _ (Builtin.List.listItems (.ref x) >>= fun _ => _) _ _ s
    refine wpAny_bind (listItems_at ex dx (wpAny_bind (listItems_at ey dy ?_)))
    have e1 : vs.toArray[(i : Int).toNat]? = some vs[i] := by simp [hi]
    obtain ⟨c, hc, pc⟩ := pv.get2 (List.getElem?_eq_getElem hi)
    cases hq : ws[i]? with
    | none =>
      have hle : ws.length ≤ i := by simpa using hq
      have e2 : ws.toArray[(i : Int).toNat]? = none := by simpa using hle
      rw [e1, e2]
      refine wpAny_bind (listItems_at ex dx (wpAny_bind (listItems_at ey dy ?_)))
      refine wpAny_pure ?_
      show R (.ok (.ret (.bool (decide (vs.toArray.size < ws.toArray.size))))) s
      have hq' : q.drop i = [] := List.drop_of_length_le (by rw [← pw.length]; lia)
      have e : decide (vs.toArray.size < ws.toArray.size) = decide (r.drop i < q.drop i) := by
        rw [hq']; simp; lia
      rw [e]; exact hR
    | some v =>
      have hiw : i < ws.length := (List.getElem?_eq_some_iff.mp hq).1
      have e2 : ws.toArray[(i : Int).toNat]? = some v := by simpa using hq
      obtain ⟨d, hd, pd⟩ := pw.get2 hq
      rw [hc, hd] at hR
      rw [e1, e2]
      refine wpAny_bind (eqBool_part pc pd ?_)
      by_cases hcd : c = d
      · rw [if_pos (by simpa using hcd)]
        refine wpAny_pure ⟨Code.quiet_builtin _ (by decide +kernel), ?_⟩
        refine ih (i + 1) (by lia) (by lia) (by lia) ?_
        have e : decide (c :: r.drop (i + 1) < d :: q.drop (i + 1)) = decide (r.drop (i + 1) < q.drop (i + 1)) := by
          rw [hcd]; refine decide_eq_decide.mpr ?_
          rw [List.cons_lt_cons_iff]
          exact ⟨fun h => h.elim (fun h => absurd h (List.lt_irrefl _)) fun h => h.2, fun h => .inr ⟨rfl, h⟩⟩
        rw [← e]; exact hR
      · rw [if_neg (by simpa using hcd)]
        refine wpAny_bind (listItems_at ex dx (wpAny_bind (listItems_at ey dy ?_)))
        rw [e1, e2]
        refine wpAny_bind (lt_part pc pd (wpAny_pure ?_))
        have e : decide (c < d) = decide (c :: r.drop (i + 1) < d :: q.drop (i + 1)) := by
          refine decide_eq_decide.mpr ?_
          rw [List.cons_lt_cons_iff]
          exact ⟨fun h => .inl h, fun h => h.elim id fun h => absurd h.1 hcd⟩
        show R (.ok (.ret (.bool (decide (c < d))))) s
        rw [e]; exact hR
end
end Mine35
end

-- part Ord35
section
set_option autoImplicit false
namespace Mine35
abbrev Row' := List (List Nat)
theorem rlt_irrefl (a : Row') : ¬ a < a := List.lt_irrefl a
theorem rlt_trans {a b c : Row'} (h : a < b) (h' : b < c) : a < c := List.lt_trans h h'
theorem rlt_asymm {a b : Row'} (h : a < b) : ¬ b < a := fun h' => rlt_irrefl _ (rlt_trans h h')
theorem rle_antisymm {a b : Row'} (h : ¬ a < b) (h' : ¬ b < a) : a = b := List.le_antisymm (List.not_lt.mp h') (List.not_lt.mp h)
theorem rle_trans {a b c : Row'} (h : ¬ b < a) (h' : ¬ c < b) : ¬ c < a := fun h'' => by
  by_cases hb : a < b
  · exact h' (rlt_trans h'' hb)
  · exact h' (by rw [← rle_antisymm hb h]; exact h'')
theorem rlt_of_lt_le {a b c : Row'} (h : a < b) (h' : ¬ c < b) : a < c := by
  by_cases hb : b < c
  · exact rlt_trans h hb
  · rw [← rle_antisymm hb h']; exact h
theorem rlt_of_le_lt {a b c : Row'} (h : ¬ b < a) (h' : b < c) : a < c := by
  by_cases hb : a < b
  · exact rlt_trans hb h'
  · rw [rle_antisymm hb h]; exact h'
end Mine35
end

-- part SortA35
section
set_option maxRecDepth 100000
set_option maxHeartbeats 4000000
set_option linter.unusedVariables false
namespace Mine35
open PySem PySem.W PySem.Calls PyProof.Rows

/-- the key at a place -/
def kk (key : Keyed → Row) (xs : Array Keyed) (i : Nat) : Row := ((xs[i]?).map key).getD []
def SortedOn (key : Keyed → Row) (xs : Array Keyed) (l r : Nat) : Prop := ∀ i j, l ≤ i → i ≤ j → j < r → ¬ kk key xs j < kk key xs i

structure SB (a₀ : Array Keyed) (pd : Array (Nat × Nat × Nat)) (st : SortSt) : Prop where
  perm : (arrOf st).Perm a₀
  kind : kindOf st = oneType'
  failed : failedOf st = none
  pend : pendingOf st = pd

/-- comparisons of the items at hand are answered by their keys -/
def Ans (prog : Program) (w : World) (A : Around) (s : Shared) (key : Keyed → Row) (a₀ : Array Keyed) : Prop :=
  ∀ x y : Keyed, x ∈ a₀.toList → y ∈ a₀.toList → ∀ (Q : Bool → Shared → Prop) (E : Value → Shared → Prop), Q (decide (key x < key y)) s → wpAny (model prog w) A (keyLt' oneType' x.1 y.1) Q E s

section
variable {prog : Program} {w : World} {A : Around} {E : Value → Shared → Prop} {s : Shared} {key : Keyed → Row} {a₀ : Array Keyed} {pd : Array (Nat × Nat × Nat)} {st : SortSt}

theorem SB.size (h : SB a₀ pd st) : (arrOf st).size = a₀.size := h.perm.size_eq
theorem SB.mem (h : SB a₀ pd st) {i : Nat} {x : Keyed} (e : (arrOf st)[i]? = some x) : x ∈ a₀.toList := by
  have : x ∈ (arrOf st).toList := by rw [← Array.getElem?_toList] at e; exact List.mem_of_getElem? e
  exact (Array.perm_iff_toList_perm.mp h.perm).mem_iff.mp this
theorem SB.setArr (h : SB a₀ pd st) {xs : Array Keyed} (p : xs.Perm (arrOf st)) : SB a₀ pd (PyProof.Rows.setArr st xs) := ⟨p.trans h.perm, h.kind, h.failed, h.pend⟩

theorem wpS_lt2 (H : Ans prog w A s key a₀) {x y : Keyed} {Q : Option Bool → SortSt → Prop} (hk : kindOf st = oneType') (hx : x ∈ a₀.toList) (hy : y ∈ a₀.toList) (h : Q (some (decide (key x < key y))) st) : wpS (model prog w) A E s (lt' x y) Q st := by
  rw [lt'_eq]
  refine wpS_bind (wpS_get ?_)
  rw [hk]
  refine wpS_bind (wpS_lift (wpAny_attempt (H x y hx hy _ _ ⟨rfl, ?_⟩)))
  exact wpS_pure h

theorem wpS_elem {arr : Array Keyed} {i : Nat} {x : Keyed} {Q : Keyed → SortSt → Prop} (e : arr[i]? = some x) (h : Q x st) : wpS (model prog w) A E s (elem' arr i) Q st := by
  rw [elem'_eq, e]; exact wpS_pure h

theorem wpS_ltAt2 (H : Ans prog w A s key a₀) (hB : SB a₀ pd st) {i j : Nat} {Q : Option Bool → SortSt → Prop} (hi : i < a₀.size) (hj : j < a₀.size) (h : Q (some (decide (kk key (arrOf st) i < kk key (arrOf st) j))) st) : wpS (model prog w) A E s (ltAt' i j) Q st := by
  obtain ⟨x, ei⟩ : ∃ x, (arrOf st)[i]? = some x := ⟨_, Array.getElem?_eq_getElem (by rw [hB.size]; exact hi)⟩
  obtain ⟨y, ej⟩ : ∃ y, (arrOf st)[j]? = some y := ⟨_, Array.getElem?_eq_getElem (by rw [hB.size]; exact hj)⟩
  rw [ltAt'_eq]
  refine wpS_bind (wpS_get ?_)
  refine wpS_bind (wpS_elem ei (wpS_bind (wpS_elem ej (wpS_lt2 H hB.kind (hB.mem ei) (hB.mem ej) ?_))))
  have e1 : kk key (arrOf st) i = key x := by unfold kk; rw [ei]; rfl
  have e2 : kk key (arrOf st) j = key y := by unfold kk; rw [ej]; rfl
  rw [← e1, ← e2]; exact h

theorem kk_congr {xs ys : Array Keyed} {i j : Nat} (h : xs[i]? = ys[j]?) : kk key xs i = kk key ys j := by unfold kk; rw [h]
theorem kk_bubble {xs : Array Keyed} {src d : Nat} (hs : src < xs.size) (hd : d ≤ src) (k : Nat) :
    kk key (bubble xs src d) k = if k = src - d then kk key xs src else if src - d < k ∧ k ≤ src then kk key xs (k - 1) else kk key xs k := by
  have e := getElem?_bubble hs d hd k
  by_cases h1 : k = src - d
  · rw [if_pos h1] at e ⊢; exact kk_congr e
  · rw [if_neg h1] at e ⊢
    by_cases h2 : src - d < k ∧ k ≤ src
    · rw [if_pos h2] at e ⊢; exact kk_congr e
    · rw [if_neg h2] at e ⊢; exact kk_congr e
theorem kk_mirror {xs : Array Keyed} {i j : Nat} (hj : j ≤ xs.size) (k : Nat) :
    kk key (mirror xs i j ((j - i) / 2)) k = if i ≤ k ∧ k < j then kk key xs (i + j - 1 - k) else kk key xs k := by
  have e := getElem?_mirror_all (i := i) hj k
  by_cases h1 : i ≤ k ∧ k < j
  · rw [if_pos h1] at e ⊢; exact kk_congr e
  · rw [if_neg h1] at e ⊢; exact kk_congr e

theorem binarySort_spec (H : Ans prog w A s key a₀) {lo n ok : Nat} {Q : Bool → SortSt → Prop} (hn : lo + n ≤ a₀.size) (hok : ok ≤ n) (hB : SB a₀ pd st) (hs : SortedOn key (arrOf st) lo (lo + ok))
    (h : ∀ st', SB a₀ pd st' → SortedOn key (arrOf st') lo (lo + n) → (∀ i, i < lo ∨ lo + n ≤ i → kk key (arrOf st') i = kk key (arrOf st) i) → Q true st') : wpS (model prog w) A E s (binarySort' lo n ok) Q st := by
  rw [binarySort'_eq]
  refine wpS_bind (wpS_mono (wpS_forRange (I := fun k c st' => c = (none, ()) ∧ SB a₀ pd st' ∧ SortedOn key (arrOf st') lo (lo + min k n) ∧ ∀ i, i < lo ∨ lo + n ≤ i → kk key (arrOf st') i = kk key (arrOf st) i)
    (Q := fun c st' => c = (none, ()) ∧ SB a₀ pd st' ∧ SortedOn key (arrOf st') lo (lo + n) ∧ ∀ i, i < lo ∨ lo + n ≤ i → kk key (arrOf st') i = kk key (arrOf st) i) ?step ?fin ⟨rfl, hB, ?start, fun _ _ => rfl⟩) ?post)
  case start =>
    intro i j hi hij hj
    by_cases h0 : ok = 0
    · have : i = j := by lia
      subst this; exact rlt_irrefl _
    · exact hs i j hi hij (by lia)
  case fin =>
    rintro c st' ⟨rfl, hB', hs', hu⟩
    refine ⟨rfl, hB', ?_, hu⟩
    intro i j hi hij hj
    exact hs' i j hi hij (by lia)
  case post =>
    rintro c st' ⟨rfl, hB', hs', hu⟩
    exact wpS_pure (h st' hB' hs' hu)
  case step =>
    rintro k c st' hk1 hk2 ⟨rfl, hB', hs', hu⟩
    dsimp only
    have hkn : min k n = k := by lia
    rw [hkn] at hs'
    -- the search
    refine wpS_bind (wpS_mono (wpS_forRange (I := fun x c st'' => st'' = st' ∧ ∃ l r, c = (none, l, r) ∧ l ≤ r ∧ r ≤ k ∧ (r - l) + x ≤ k ∧ (∀ i, i < l → ¬ kk key (arrOf st') (lo + k) < kk key (arrOf st') (lo + i)) ∧ (∀ i, r ≤ i → i < k → kk key (arrOf st') (lo + k) < kk key (arrOf st') (lo + i)))
      (Q := fun c st'' => st'' = st' ∧ ∃ l, (c.2.1 = l ∧ c.1 = none) ∧ l ≤ k ∧ (∀ i, i < l → ¬ kk key (arrOf st') (lo + k) < kk key (arrOf st') (lo + i)) ∧ (∀ i, l ≤ i → i < k → kk key (arrOf st') (lo + k) < kk key (arrOf st') (lo + i))) ?istep ?ifin ⟨rfl, 0, k, rfl, by lia, by lia, by lia, fun i hi => by lia, fun i h1 h2 => by lia⟩) ?ipost)
    case istep =>
      rintro x c st'' _ hx ⟨rfl, l, r, rfl, hlr, hrk, hm, hl, hr⟩
      dsimp only
      by_cases hge : l ≥ r
      · rw [if_pos hge]
        have : l = r := by lia
        subst this
        exact wpS_pure ⟨rfl, l, ⟨rfl, rfl⟩, hrk, hl, hr⟩
      · rw [if_neg hge]
        refine wpS_bind (wpS_ltAt2 H hB' (by lia) (by lia) ?_)
        dsimp only
        by_cases hc : kk key (arrOf st'') (lo + k) < kk key (arrOf st'') (lo + (l + r) / 2)
        · rw [if_pos (by simpa using hc)]
          refine wpS_pure ⟨rfl, l, (l + r) / 2, rfl, by lia, by lia, by lia, hl, fun i h1 h2 => ?_⟩
          exact rlt_of_lt_le hc (hs' _ _ (by lia) (by lia) (by lia))
        · rw [if_neg (by simpa using hc)]
          refine wpS_pure ⟨rfl, (l + r) / 2 + 1, r, rfl, by lia, by lia, by lia, fun i hi => ?_, hr⟩
          by_cases hi' : i ≤ (l + r) / 2
          · intro hlt
            exact hc (rlt_of_lt_le hlt (hs' _ _ (by lia) (by lia) (by lia)))
          · lia
    case ifin =>
      rintro c st'' ⟨rfl, l, r, rfl, hlr, hrk, hm, hl, hr⟩
      have : l = r := by lia
      subst this
      exact ⟨rfl, l, ⟨rfl, rfl⟩, hrk, hl, hr⟩
    case ipost =>
      rintro ⟨c1, c2, c3⟩ st'' ⟨rfl, l, ⟨hc2, hc1⟩, hlk, hl, hr⟩
      dsimp only at hc1 hc2
      subst hc1 hc2
      dsimp only
      rw [moveDown'_eq]
      refine wpS_bind (wpS_modify (wpS_pure ⟨rfl, hB'.setArr (bubble_perm _ _ _), ?_, ?_⟩))
      · have hsz : lo + k < (arrOf st'').size := by rw [hB'.size]; lia
        have e : ∀ i, kk key (bubble (arrOf st'') (lo + k) (lo + k - (lo + c2))) i = if i = lo + c2 then kk key (arrOf st'') (lo + k) else if lo + c2 < i ∧ i ≤ lo + k then kk key (arrOf st'') (i - 1) else kk key (arrOf st'') i := fun i => by
          rw [kk_bubble hsz (by lia), show lo + k - (lo + k - (lo + c2)) = lo + c2 by lia]
        show SortedOn key (bubble (arrOf st'') (lo + k) (lo + k - (lo + c2))) lo (lo + min (k + 1) n)
        rw [show min (k + 1) n = k + 1 by lia]
        intro i j hi hij hj
        rw [e, e]
        have hs2 : ∀ a b, a ≤ b → b < k → ¬ kk key (arrOf st'') (lo + b) < kk key (arrOf st'') (lo + a) := fun a b hab hb => hs' _ _ (by lia) (by lia) (by lia)
        by_cases hi1 : i = lo + c2
        · rw [if_pos hi1]
          by_cases hj1 : j = lo + c2
          · rw [if_pos hj1]; exact rlt_irrefl _
          · rw [if_neg hj1, if_pos (by lia)]
            have := hr (j - 1 - lo) (by lia) (by lia)
            rw [show lo + (j - 1 - lo) = j - 1 by lia] at this
            exact rlt_asymm this
        · rw [if_neg hi1]
          by_cases hi2 : lo + c2 < i ∧ i ≤ lo + k
          · rw [if_pos hi2, if_neg (by lia), if_pos (by lia)]
            have := hs2 (i - 1 - lo) (j - 1 - lo) (by lia) (by lia)
            rwa [show lo + (i - 1 - lo) = i - 1 by lia, show lo + (j - 1 - lo) = j - 1 by lia] at this
          · rw [if_neg hi2]
            have hilt : i < lo + c2 := by lia
            by_cases hj1 : j = lo + c2
            · rw [if_pos hj1]
              have := hl (i - lo) (by lia)
              rwa [show lo + (i - lo) = i by lia] at this
            · rw [if_neg hj1]
              by_cases hj2 : lo + c2 < j ∧ j ≤ lo + k
              · rw [if_pos hj2]
                have := hs2 (i - lo) (j - 1 - lo) (by lia) (by lia)
                rwa [show lo + (i - lo) = i by lia, show lo + (j - 1 - lo) = j - 1 by lia] at this
              · rw [if_neg hj2]
                have := hs2 (i - lo) (j - lo) (by lia) (by lia)
                rwa [show lo + (i - lo) = i by lia, show lo + (j - lo) = j by lia] at this
      · intro i hi
        rw [← hu i hi]
        have hsz : lo + k < (arrOf st'').size := by rw [hB'.size]; lia
        show kk key (bubble (arrOf st'') (lo + k) (lo + k - (lo + c2))) i = _
        rw [kk_bubble hsz (by lia), if_neg (by lia), if_neg (by lia)]
end
end Mine35
end

-- part SortB35
section
set_option maxRecDepth 100000
set_option maxHeartbeats 4000000
set_option linter.unusedVariables false
namespace Mine35
open PySem PySem.W PySem.Calls PyProof.Rows

def NonInc' (key : Keyed → Row) (xs : Array Keyed) (l r : Nat) : Prop := ∀ i j, l ≤ i → i ≤ j → j < r → ¬ kk key xs i < kk key xs j

theorem shareS {G : Prop} {P : SortSt → Prop} (C : SortSt → Prop) (rest : (∀ s, C s → P s) → G) (tail : ∀ s, C s → P s) : G := rest tail
section
variable {prog : Program} {w : World} {A : Around} {E : Value → Shared → Prop} {s : Shared} {key : Keyed → Row} {a₀ : Array Keyed} {pd : Array (Nat × Nat × Nat)} {st : SortSt}

theorem countRun_spec (H : Ans prog w A s key a₀) {lo nrem : Nat} {Q : Option Nat → SortSt → Prop} (hn : lo + nrem ≤ a₀.size) (h1 : 1 ≤ nrem) (hB : SB a₀ pd st)
    (h : ∀ m st', SB a₀ pd st' → 1 ≤ m → m ≤ nrem → SortedOn key (arrOf st') lo (lo + m) → (∀ i, i < lo ∨ lo + nrem ≤ i → kk key (arrOf st') i = kk key (arrOf st) i) → Q (some m) st') : wpS (model prog w) A E s (countRun' lo nrem) Q st := by
  rw [countRun'_eq]
  refine wpS_bind (wpS_mono (wpS_forRange (I := fun x c st' => st' = st ∧ c = (none, x) ∧ x ≤ nrem ∧ SortedOn key (arrOf st) lo (lo + x))
    (Q := fun c st' => st' = st ∧ ∃ n, c = (none, n) ∧ 1 ≤ n ∧ n ≤ nrem ∧ SortedOn key (arrOf st) lo (lo + n) ∧ (n < nrem → kk key (arrOf st) (lo + n) < kk key (arrOf st) (lo + n - 1))) ?step ?fin ⟨rfl, rfl, h1, ?start⟩) ?post)
  case start =>
    intro i j hi hij hj
    have : i = j := by lia
    subst this; exact rlt_irrefl _
  case fin =>
    rintro c st' ⟨rfl, rfl, hx, hs⟩
    rw [show max 1 nrem = nrem by lia] at *
    exact ⟨rfl, nrem, rfl, h1, Nat.le_refl _, hs, fun hh => by lia⟩
  case step =>
    rintro x c st' hx1 hx2 ⟨rfl, rfl, hx3, hs⟩
    dsimp only
    refine wpS_bind (wpS_ltAt2 H hB (by lia) (by lia) ?_)
    dsimp only
    by_cases hc : kk key (arrOf st') (lo + x) < kk key (arrOf st') (lo + x - 1)
    · rw [if_pos (by simpa using hc)]
      exact wpS_pure ⟨rfl, x, rfl, hx1, hx3, hs, fun _ => hc⟩
    · rw [if_neg (by simpa using hc)]
      refine wpS_pure ⟨rfl, rfl, hx2, ?_⟩
      intro i j hi hij hj
      by_cases hj' : j = lo + x
      · subst hj'
        by_cases hi' : i = lo + x
        · subst hi'; exact rlt_irrefl _
        · exact rle_trans (hs i (lo + x - 1) hi (by lia) (by lia)) hc
      · exact hs i j hi hij (by lia)
  case post =>
    rintro c st' ⟨rfl, n, rfl, hn1, hn2, hs, hbrk⟩
    dsimp only
    by_cases heq : n = nrem
    · rw [if_pos (by simpa using heq)]
      exact wpS_pure (h n _ hB hn1 hn2 hs fun _ _ => rfl)
    rw [if_neg (by simpa using heq)]
    have hlt : n < nrem := by lia
    have hbk := hbrk hlt
    apply shareS (C := fun st1 => SB a₀ pd st1 ∧ (∀ i, kk key (arrOf st1) i = kk key (arrOf st') i) ∧ ∀ i, lo ≤ i → i < lo + n → kk key (arrOf st') i = kk key (arrOf st') (lo + n - 1))
    case rest =>
      intro tail
      by_cases hgt : n > 1
      · rw [if_pos hgt]
        refine wpS_bind (wpS_ltAt2 H hB (by lia) (by lia) ?_)
        dsimp only
        by_cases hr : kk key (arrOf st') lo < kk key (arrOf st') (lo + n - 1)
        · rw [if_pos (by simpa using hr)]
          exact wpS_pure (h n _ hB hn1 hn2 hs fun _ _ => rfl)
        rw [if_neg (by simpa using hr), reverseSlice'_eq]
        have heq' : ∀ i, lo ≤ i → i < lo + n → kk key (arrOf st') i = kk key (arrOf st') (lo + n - 1) := fun i hi1 hi2 =>
          rle_antisymm (fun hlt => hr (rlt_of_le_lt (hs lo i (Nat.le_refl _) hi1 (by lia)) hlt)) (hs i (lo + n - 1) hi1 (by lia) (by lia))
        refine wpS_bind (wpS_modify ?_)
        have hB1 : SB a₀ pd (setArr st' (mirror (arrOf st') lo (lo + n) ((lo + n - lo) / 2))) := hB.setArr (mirror_perm _ _ _ _)
        have hk1 : ∀ i, kk key (arrOf (setArr st' (mirror (arrOf st') lo (lo + n) ((lo + n - lo) / 2)))) i = kk key (arrOf st') i := fun i => by
          show kk key (mirror (arrOf st') lo (lo + n) ((lo + n - lo) / 2)) i = _
          rw [kk_mirror (by rw [hB.size]; lia)]
          split
          · rw [heq' _ (by lia) (by lia), heq' i (by lia) (by lia)]
          · rfl
        have hC := And.intro hB1 (And.intro hk1 heq')
        generalize setArr st' (mirror (arrOf st') lo (lo + n) ((lo + n - lo) / 2)) = st1 at hC ⊢
        exact tail st1 hC
      · rw [if_neg hgt]
        exact tail st' ⟨hB, fun _ => rfl, fun i hi1 hi2 => by rw [show i = lo + n - 1 by lia]⟩
    case' tail => rintro st1 ⟨hB1, hk1, heq'⟩
    all_goals
      have hni : NonInc' key (arrOf st1) lo (lo + (n + 1)) := by
        intro i j hi hij hj
        rw [hk1, hk1]
        by_cases hj' : j = lo + n
        · subst hj'
          by_cases hi' : i = lo + n
          · subst hi'; exact rlt_irrefl _
          · rw [heq' i hi (by lia)]; exact rlt_asymm hbk
        · rw [heq' i hi (by lia), heq' j (by lia) (by lia)]; exact rlt_irrefl _
      have hni' : NonInc' key (arrOf st') lo (lo + (n + 1)) := fun i j a b c => by have := hni i j a b c; rwa [hk1, hk1] at this
      refine wpS_bind (wpS_lift (wpAny_rule ⟨rfl, ?_⟩))
      refine wpS_bind (wpS_mono (wpS_forRange (I := fun x c st2 => ∃ q, c = (none, x, q) ∧ SB a₀ pd st2 ∧ (∀ i, kk key (arrOf st2) i = kk key (arrOf st') i) ∧ x ≤ nrem ∧ NonInc' key (arrOf st') lo (lo + x) ∧ q + 1 ≤ x ∧ ∀ i, lo + x - (q + 1) ≤ i → i < lo + x → kk key (arrOf st') i = kk key (arrOf st') (lo + x - 1))
        (Q := fun c st2 => ∃ m q, c = (none, m, q) ∧ SB a₀ pd st2 ∧ (∀ i, kk key (arrOf st2) i = kk key (arrOf st') i) ∧ 1 ≤ m ∧ m ≤ nrem ∧ NonInc' key (arrOf st') lo (lo + m) ∧ q + 1 ≤ m ∧ ∀ i, lo + m - (q + 1) ≤ i → i < lo + m → kk key (arrOf st') i = kk key (arrOf st') (lo + m - 1)) ?_ ?_ ⟨0, rfl, hB1, hk1, hlt, hni', by lia, fun i a b => by rw [show i = lo + (n + 1) - 1 by lia]⟩) ?_)
      · rintro x c st2 hx1 hx2 ⟨q, rfl, hB2, hk2, hx3, hd, hq, he⟩
        dsimp only
        refine wpS_bind (wpS_ltAt2 H hB2 (by lia) (by lia) ?_)
        dsimp only
        rw [hk2, hk2]
        by_cases hc : kk key (arrOf st') (lo + x) < kk key (arrOf st') (lo + x - 1)
        · rw [if_pos (by simpa using hc)]
          have hd' : NonInc' key (arrOf st') lo (lo + (x + 1)) := by
            intro i j hi hij hj
            by_cases hj' : j = lo + x
            · subst hj'
              by_cases hi' : i = lo + x
              · subst hi'; exact rlt_irrefl _
              · intro hlt2
                exact hd i (lo + x - 1) hi (by lia) (by lia) (rlt_trans hlt2 hc)
            · exact hd i j hi hij (by lia)
          by_cases hq0 : q > 0
          · rw [if_pos hq0, reverseSlice'_eq]
            refine wpS_bind (wpS_modify (wpS_pure ⟨0, rfl, hB2.setArr (mirror_perm _ _ _ _), fun i => ?_, hx2, hd', by lia, fun i a b => by rw [show i = lo + (x + 1) - 1 by lia]⟩))
            rw [← hk2 i]
            show kk key (mirror (arrOf st2) (lo + x - (q + 1)) (lo + x) ((lo + x - (lo + x - (q + 1))) / 2)) i = _
            rw [kk_mirror (by rw [hB2.size]; lia)]
            split
            · rw [hk2, hk2, he _ (by lia) (by lia), he i (by lia) (by lia)]
            · rfl
          · rw [if_neg hq0]
            exact wpS_pure ⟨0, rfl, hB2, hk2, hx2, hd', by lia, fun i a b => by rw [show i = lo + (x + 1) - 1 by lia]⟩
        · rw [if_neg (by simpa using hc)]
          refine wpS_bind (wpS_ltAt2 H hB2 (by lia) (by lia) ?_)
          dsimp only
          rw [hk2, hk2]
          by_cases hc2 : kk key (arrOf st') (lo + x - 1) < kk key (arrOf st') (lo + x)
          · rw [if_pos (by simpa using hc2)]
            exact wpS_pure ⟨x, q, rfl, hB2, hk2, by lia, hx3, hd, hq, he⟩
          · rw [if_neg (by simpa using hc2)]
            have hee : kk key (arrOf st') (lo + x) = kk key (arrOf st') (lo + x - 1) := rle_antisymm hc hc2
            refine wpS_pure ⟨q + 1, rfl, hB2, hk2, hx2, ?_, by lia, fun i a b => ?_⟩
            · intro i j hi hij hj
              by_cases hj' : j = lo + x
              · subst hj'
                by_cases hi' : i = lo + x
                · subst hi'; exact rlt_irrefl _
                · rw [hee]; exact hd i (lo + x - 1) hi (by lia) (by lia)
              · exact hd i j hi hij (by lia)
            · rw [show lo + (x + 1) - 1 = lo + x by lia]
              by_cases hi' : i = lo + x
              · rw [hi']
              · rw [he i (by lia) (by lia), hee]
      · rintro c st2 ⟨q, rfl, hB2, hk2, hx3, hd, hq, he⟩
        exact ⟨_, q, rfl, hB2, hk2, by lia, hx3, hd, hq, he⟩
      · rintro c st2 ⟨m, q, rfl, hB2, hk2, hm1, hm2, hd, hq, he⟩
        dsimp only
        apply shareS (C := fun st3 => SB a₀ pd st3 ∧ ∀ i, kk key (arrOf st3) i = kk key (arrOf st') i)
        case rest =>
          intro tail
          by_cases hq0 : q > 0
          · rw [if_pos hq0, reverseSlice'_eq]
            refine wpS_bind (wpS_modify ?_)
            have hB3 : SB a₀ pd (setArr st2 (mirror (arrOf st2) (lo + m - (q + 1)) (lo + m) ((lo + m - (lo + m - (q + 1))) / 2))) := hB2.setArr (mirror_perm _ _ _ _)
            have hk3 : ∀ i, kk key (arrOf (setArr st2 (mirror (arrOf st2) (lo + m - (q + 1)) (lo + m) ((lo + m - (lo + m - (q + 1))) / 2)))) i = kk key (arrOf st') i := fun i => by
              rw [← hk2 i]
              show kk key (mirror (arrOf st2) (lo + m - (q + 1)) (lo + m) ((lo + m - (lo + m - (q + 1))) / 2)) i = _
              rw [kk_mirror (by rw [hB2.size]; lia)]
              split
              · rw [hk2, hk2, he _ (by lia) (by lia), he i (by lia) (by lia)]
              · rfl
            have hC := And.intro hB3 hk3
            generalize setArr st2 (mirror (arrOf st2) (lo + m - (q + 1)) (lo + m) ((lo + m - (lo + m - (q + 1))) / 2)) = st3 at hC ⊢
            exact tail st3 hC
          · rw [if_neg hq0]
            exact tail st2 ⟨hB2, hk2⟩
        case' tail => rintro st3 ⟨hB3, hk3⟩
        all_goals
          rw [reverseSlice'_eq]
          refine wpS_bind (wpS_modify ?_)
          have hB4 : SB a₀ pd (setArr st3 (mirror (arrOf st3) lo (lo + m) ((lo + m - lo) / 2))) := hB3.setArr (mirror_perm _ _ _ _)
          have hk4 : ∀ i, kk key (arrOf (setArr st3 (mirror (arrOf st3) lo (lo + m) ((lo + m - lo) / 2)))) i = if lo ≤ i ∧ i < lo + m then kk key (arrOf st') (lo + (lo + m) - 1 - i) else kk key (arrOf st') i := fun i => by
            show kk key (mirror (arrOf st3) lo (lo + m) ((lo + m - lo) / 2)) i = _
            rw [kk_mirror (by rw [hB3.size]; lia), hk3, hk3]
          generalize setArr st3 (mirror (arrOf st3) lo (lo + m) ((lo + m - lo) / 2)) = st4 at hB4 hk4 ⊢
          have hs4 : SortedOn key (arrOf st4) lo (lo + m) := by
            intro i j hi hij hj
            rw [hk4, hk4, if_pos (by lia), if_pos (by lia)]
            exact hd _ _ (by lia) (by lia) (by lia)
          refine wpS_bind (wpS_mono (wpS_forRange (I := fun x c st5 => st5 = st4 ∧ c = (none, x) ∧ x ≤ nrem ∧ SortedOn key (arrOf st4) lo (lo + x))
            (Q := fun c st5 => st5 = st4 ∧ ∃ n, c = (none, n) ∧ 1 ≤ n ∧ n ≤ nrem ∧ SortedOn key (arrOf st4) lo (lo + n)) ?_ ?_ ⟨rfl, rfl, hm2, hs4⟩) ?_)
          · rintro x c st5 hx1 hx2 ⟨rfl, rfl, hx3, hs⟩
            dsimp only
            refine wpS_bind (wpS_ltAt2 H hB4 (by lia) (by lia) ?_)
            dsimp only
            by_cases hc : kk key (arrOf st5) (lo + x) < kk key (arrOf st5) (lo + x - 1)
            · rw [if_pos (by simpa using hc)]
              exact wpS_pure ⟨rfl, x, rfl, by lia, hx3, hs⟩
            · rw [if_neg (by simpa using hc)]
              refine wpS_pure ⟨rfl, rfl, hx2, ?_⟩
              intro i j hi hij hj
              by_cases hj' : j = lo + x
              · subst hj'
                by_cases hi' : i = lo + x
                · subst hi'; exact rlt_irrefl _
                · exact rle_trans (hs i (lo + x - 1) hi (by lia) (by lia)) hc
              · exact hs i j hi hij (by lia)
          · rintro c st5 ⟨rfl, rfl, hx, hs⟩
            exact ⟨rfl, _, rfl, by lia, hx, hs⟩
          · rintro c st5 ⟨rfl, m', rfl, hm1', hm2', hs'⟩
            refine wpS_pure (h m' _ hB4 hm1' hm2' hs' fun i hi => ?_)
            rw [hk4, if_neg (by lia)]
end
end Mine35
end

-- part SortC35
section
set_option maxRecDepth 100000
set_option maxHeartbeats 4000000
set_option linter.unusedVariables false
namespace Mine35
open PySem PySem.W PySem.Calls PyProof.Rows

def gallopP : Bool → Keyed → Array Keyed → Nat → Nat → Nat → StateT SortSt Sem (Option Nat) := sortPriv% PySem.Builtin.gallop
section
variable {prog : Program} {w : World} {A : Around} {E : Value → Shared → Prop} {s : Shared} {key : Keyed → Row} {a₀ : Array Keyed} {pd : Array (Nat × Nat × Nat)} {st : SortSt}

/-- the test of a gallop -/
def past (key : Keyed → Row) (left : Bool) (k x : Keyed) : Bool := if left then decide (key x < key k) else !decide (key k < key x)

theorem gallop_spec (H : Ans prog w A s key a₀) {left : Bool} {k : Keyed} {arr : Array Keyed} {base n hint T : Nat} {Q : Option Nat → SortSt → Prop} (hk : kindOf st = oneType') (hka : k ∈ a₀.toList)
    (harr : ∀ i, i < n → ∃ x, arr[base + i]? = some x ∧ x ∈ a₀.toList ∧ past key left k x = decide (i < T)) (hT : T ≤ n) (hh : hint < n) (h : Q (some T) st) : wpS (model prog w) A E s (gallopP left k arr base n hint) Q st := by
  have hbey : ∀ i, i < n → ∀ (Q' : Option Bool → SortSt → Prop), Q' (some (decide (i < T))) st →
      wpS (model prog w) A E s (do let x ← elem' arr (base + i); if left = true then lt' x k else do let r ← lt' k x; pure (r.map (!·))) Q' st := by
    intro i hi Q' q
    obtain ⟨x, ex, hx, hp⟩ := harr i hi
    refine wpS_bind (wpS_elem ex ?_)
    rw [← hp] at q
    unfold past at q
    cases left with
    | true => exact wpS_lt2 H hk hx hka q
    | false => exact wpS_bind (wpS_lt2 H hk hka hx (wpS_pure q))
  refine wpS_bind (m := _) (hbey hint hh _ ?_)
  dsimp only
  by_cases hr : hint < T
  case' pos =>
    rw [if_pos (by simpa using hr)]
    refine wpS_bind (wpS_mono (wpS_forRange (I := fun x c st' => st' = st ∧ ∃ la ofs, c = (none, la, ofs) ∧ hint + la < T ∧ x + 1 ≤ ofs ∧ la < ofs)
      (Q := fun c st' => st' = st ∧ ∃ la ofs, c = (none, la, ofs) ∧ hint + la < T ∧ T ≤ hint + min ofs (n - hint)) ?_ ?_ ⟨rfl, 0, 1, rfl, by lia, by lia, by lia⟩) ?_)
    · rintro x c st' _ hx ⟨rfl, la, ofs, rfl, h1, h2, h3⟩
      dsimp only
      by_cases hge : ofs ≥ n - hint
      · rw [if_pos hge]
        exact wpS_pure ⟨rfl, la, ofs, rfl, h1, by lia⟩
      · rw [if_neg hge]
        refine wpS_bind (m := _) (hbey (hint + ofs) (by lia) _ ?_)
        dsimp only
        by_cases hm : hint + ofs < T
        · rw [if_neg (by simp; lia)]
          exact wpS_pure ⟨rfl, ofs, 2 * ofs + 1, rfl, hm, by lia, by lia⟩
        · rw [if_pos (by simp; lia)]
          exact wpS_pure ⟨rfl, la, ofs, rfl, h1, by lia⟩
    · rintro c st' ⟨rfl, la, ofs, rfl, h1, h2, h3⟩
      exact ⟨rfl, la, ofs, rfl, h1, by lia⟩
    rintro c st' ⟨rfl, la, ofs, rfl, h1, h2⟩
    dsimp only
    have hlo : hint + la + 1 ≤ T := by lia
    have hhi : T ≤ hint + min ofs (n - hint) := h2
    have hhn : hint + min ofs (n - hint) ≤ n := by lia
    generalize hint + la + 1 = lo at hlo ⊢
    generalize hint + min ofs (n - hint) = hi at hhi hhn ⊢
  case' neg =>
    rw [if_neg (by simpa using hr)]
    refine wpS_bind (wpS_mono (wpS_forRange (I := fun x c st' => st' = st ∧ ∃ la ofs, c = (none, la, ofs) ∧ T ≤ hint - la ∧ la ≤ hint ∧ x + 1 ≤ ofs ∧ la < ofs)
      (Q := fun c st' => st' = st ∧ ∃ la ofs, c = (none, la, ofs) ∧ T ≤ hint - la ∧ hint + 1 - min ofs (hint + 1) ≤ T) ?_ ?_ ⟨rfl, 0, 1, rfl, by lia, by lia, by lia, by lia⟩) ?_)
    · rintro x c st' _ hx ⟨rfl, la, ofs, rfl, h1, h2, h3, h4⟩
      dsimp only
      by_cases hge : ofs ≥ hint + 1
      · rw [if_pos hge]
        exact wpS_pure ⟨rfl, la, ofs, rfl, h1, by lia⟩
      · rw [if_neg hge]
        refine wpS_bind (m := _) (hbey (hint - ofs) (by lia) _ ?_)
        dsimp only
        by_cases hm : hint - ofs < T
        · rw [if_pos (by simpa using hm)]
          exact wpS_pure ⟨rfl, la, ofs, rfl, h1, by lia⟩
        · rw [if_neg (by simpa using hm)]
          exact wpS_pure ⟨rfl, ofs, 2 * ofs + 1, rfl, by lia, by lia, by lia, by lia⟩
    · rintro c st' ⟨rfl, la, ofs, rfl, h1, h2, h3, h4⟩
      exact ⟨rfl, la, ofs, rfl, h1, by lia⟩
    rintro c st' ⟨rfl, la, ofs, rfl, h1, h2⟩
    dsimp only
    have hlo : hint + 1 - min ofs (hint + 1) ≤ T := h2
    have hhi : T ≤ hint - la := h1
    have hhn : hint - la ≤ n := by lia
    generalize hint + 1 - min ofs (hint + 1) = lo at hlo ⊢
    generalize hint - la = hi at hhi hhn ⊢
  all_goals
    refine wpS_bind (wpS_mono (wpS_forRange (I := fun x c st'' => st'' = st' ∧ ∃ lo hi, c = (none, lo, hi) ∧ lo ≤ T ∧ T ≤ hi ∧ hi ≤ n ∧ hi - lo + x ≤ n)
      (Q := fun c st'' => st'' = st' ∧ ∃ lo, c = (none, lo, T)) ?_ ?_ ⟨rfl, lo, hi, rfl, hlo, hhi, hhn, by lia⟩) ?_)
    · rintro x c st'' _ hx ⟨rfl, lo, hi, rfl, h1, h2, h3, h4⟩
      dsimp only
      by_cases hge : lo ≥ hi
      · rw [if_pos hge]
        exact wpS_pure ⟨rfl, lo, by rw [show hi = T by lia]⟩
      · rw [if_neg hge]
        refine wpS_bind (m := _) (hbey (lo + (hi - lo) / 2) (by lia) _ ?_)
        dsimp only
        by_cases hm : lo + (hi - lo) / 2 < T
        · rw [if_pos (by simpa using hm)]
          exact wpS_pure ⟨rfl, lo + (hi - lo) / 2 + 1, hi, rfl, by lia, by lia, by lia, by lia⟩
        · rw [if_neg (by simpa using hm)]
          exact wpS_pure ⟨rfl, lo, lo + (hi - lo) / 2, rfl, by lia, by lia, by lia, by lia⟩
    · rintro c st'' ⟨rfl, lo, hi, rfl, h1, h2, h3, h4⟩
      exact ⟨rfl, lo, by rw [show hi = T by lia]⟩
    · rintro c st'' ⟨rfl, lo, rfl⟩
      exact wpS_pure h
end
end Mine35
end

-- part SortD35
section
set_option maxRecDepth 100000
set_option maxHeartbeats 4000000
set_option linter.unusedVariables false
namespace Mine35
open PySem PySem.W PySem.Calls PyProof.Rows

def SL (key : Keyed → Row) (l : List Keyed) : Prop := l.Pairwise fun x y => ¬ key y < key x

structure MI (key : Keyed → Row) (a b out : Array Keyed) (ia ib : Nat) : Prop where
  perm : out.toList.Perm (a.toList.take ia ++ b.toList.take ib)
  sort : SL key out.toList
  leA : ∀ x ∈ out.toList, ∀ y ∈ a.toList.drop ia, ¬ key y < key x
  leB : ∀ x ∈ out.toList, ∀ y ∈ b.toList.drop ib, ¬ key y < key x

structure Res (key : Keyed → Row) (a b out : Array Keyed) : Prop where
  perm : out.toList.Perm (a.toList ++ b.toList)
  sort : SL key out.toList

structure Same (st st' : SortSt) : Prop where
  kind : kindOf st' = kindOf st
  arr : arrOf st' = arrOf st
  pend : pendingOf st' = pendingOf st
  failed : failedOf st' = failedOf st

section
variable {key : Keyed → Row} {a b out : Array Keyed} {ia ib : Nat}

theorem ext_list (a : Array Keyed) (i j : Nat) : (a.extract i j).toList = (a.toList.drop i).take (j - i) := by
  rw [Array.toList_extract, List.extract_eq_take_drop]
theorem ext_all (a : Array Keyed) (i : Nat) : (a.extract i).toList = a.toList.drop i := by
  rw [ext_list, List.take_of_length_le (by simp)]

theorem MI.pushB (h : MI key a b out ia ib) {y : Keyed} (hy : b[ib]? = some y) (sb : SL key b.toList) (ha : ∀ z ∈ a.toList.drop ia, ¬ key z < key y) : MI key a b (out.push y) ia (ib + 1) := by
  have hy' : b.toList[ib]? = some y := by rw [Array.getElem?_toList]; exact hy
  obtain ⟨hlt, hey⟩ := List.getElem?_eq_some_iff.mp hy'
  have hd : b.toList.drop ib = y :: b.toList.drop (ib + 1) := by rw [List.drop_eq_getElem_cons hlt, hey]
  have hym : y ∈ b.toList.drop ib := by rw [hd]; exact .head _
  have hyb : ∀ z ∈ b.toList.drop (ib + 1), ¬ key z < key y := by
    have := List.Pairwise.sublist (List.drop_sublist ib _) sb
    rw [hd] at this
    exact (List.pairwise_cons.mp this).1
  refine ⟨?_, ?_, fun x hx z hz => ?_, fun x hx z hz => ?_⟩
  · rw [Array.toList_push, List.take_add_one, hy', ← List.append_assoc]
    exact h.perm.append_right _
  · rw [Array.toList_push]
    refine List.pairwise_append.mpr ⟨h.sort, List.pairwise_singleton _ _, fun x hx z hz => ?_⟩
    rw [List.mem_singleton.mp hz]; exact h.leB x hx y hym
  · rw [Array.toList_push] at hx
    rcases List.mem_append.mp hx with hx | hx
    · exact h.leA x hx z hz
    · rw [List.mem_singleton.mp hx]; exact ha z hz
  · rw [Array.toList_push] at hx
    rcases List.mem_append.mp hx with hx | hx
    · exact h.leB x hx z (by rw [hd]; exact .tail _ hz)
    · rw [List.mem_singleton.mp hx]; exact hyb z hz

theorem MI.symm (h : MI key a b out ia ib) : MI key b a out ib ia := ⟨h.perm.trans List.perm_append_comm, h.sort, h.leB, h.leA⟩
theorem MI.pushA (h : MI key a b out ia ib) {y : Keyed} (hy : a[ia]? = some y) (sa : SL key a.toList) (hb : ∀ z ∈ b.toList.drop ib, ¬ key z < key y) : MI key a b (out.push y) (ia + 1) ib := (h.symm.pushB hy sa hb).symm

theorem MI.appB (sb : SL key b.toList) : ∀ (k ib : Nat) (out : Array Keyed), MI key a b out ia ib → ib + k ≤ b.size → (∀ z ∈ (b.toList.drop ib).take k, ∀ y ∈ a.toList.drop ia, ¬ key y < key z) → MI key a b (out ++ b.extract ib (ib + k)) ia (ib + k)
  | 0, ib, out, h, _, _ => by
    have : out ++ b.extract ib (ib + 0) = out := by
      apply Array.ext'; rw [Array.toList_append, ext_list]; simp
    rw [this]; exact h
  | k + 1, ib, out, h, hk, ha => by
    have hlt : ib < b.toList.length := by simp; lia
    have hd : b.toList.drop ib = b.toList[ib] :: b.toList.drop (ib + 1) := List.drop_eq_getElem_cons hlt
    have hy : b[ib]? = some b.toList[ib] := by rw [← Array.getElem?_toList]; exact List.getElem?_eq_getElem hlt
    have h1 := h.pushB hy sb (ha _ (by rw [hd]; simp))
    have h2 := MI.appB sb k (ib + 1) (out.push b.toList[ib]) h1 (by lia) fun z hz => ha z (by rw [hd, List.take_succ_cons]; exact .tail _ hz)
    have e : out ++ b.extract ib (ib + (k + 1)) = out.push b.toList[ib] ++ b.extract (ib + 1) (ib + 1 + k) := by
      apply Array.ext'
      rw [Array.toList_append, Array.toList_append, Array.toList_push, ext_list, ext_list, hd, show ib + (k + 1) - ib = k + 1 by lia, List.take_succ_cons, show ib + 1 + k - (ib + 1) = k by lia]
      simp
    rw [e, show ib + (k + 1) = ib + 1 + k by lia]; exact h2
theorem MI.appA (h : MI key a b out ia ib) (sa : SL key a.toList) (k : Nat) (hk : ia + k ≤ a.size) (ha : ∀ z ∈ (a.toList.drop ia).take k, ∀ y ∈ b.toList.drop ib, ¬ key y < key z) : MI key a b (out ++ a.extract ia (ia + k)) (ia + k) ib :=
  (MI.appB sa k ia out h.symm hk ha).symm

theorem MI.doneG (h : MI key a b out ia ib) (sa : SL key a.toList) (sb : SL key b.toList) (he : a.toList.drop ia = [] ∨ b.toList.drop ib = []) : Res key a b (out ++ a.extract ia ++ b.extract ib) := by
  have e : (out ++ a.extract ia ++ b.extract ib).toList = out.toList ++ (a.toList.drop ia ++ b.toList.drop ib) := by
    rw [Array.toList_append, Array.toList_append, ext_all, ext_all, List.append_assoc]
  refine ⟨?_, ?_⟩
  · rw [e]
    refine (h.perm.append_right _).trans ?_
    have hA := List.take_append_drop ia a.toList
    have hB := List.take_append_drop ib b.toList
    refine List.Perm.trans ?_ (List.Perm.of_eq (by rw [hA, hB] : (a.toList.take ia ++ a.toList.drop ia) ++ (b.toList.take ib ++ b.toList.drop ib) = a.toList ++ b.toList))
    rw [List.append_assoc, List.append_assoc]
    refine List.Perm.append_left _ ?_
    rw [← List.append_assoc, ← List.append_assoc]
    exact List.Perm.append_right _ List.perm_append_comm
  · show SL key _
    rw [e]
    refine List.pairwise_append.mpr ⟨h.sort, ?_, fun x hx z hz => ?_⟩
    · rcases he with he | he
      · rw [he, List.nil_append]; exact List.Pairwise.sublist (List.drop_sublist ib _) sb
      · rw [he, List.append_nil]; exact List.Pairwise.sublist (List.drop_sublist ia _) sa
    · rcases List.mem_append.mp hz with hz | hz
      · exact h.leA x hx z hz
      · exact h.leB x hx z hz

theorem MI.lastG (h : MI key a b out ia ib) (sa : SL key a.toList) (sb : SL key b.toList) (he : ∀ y ∈ b.toList.drop ib, ∀ z ∈ a.toList.drop ia, ¬ key z < key y) : Res key a b (out ++ b.extract ib ++ a.extract ia) := by
  have e : (out ++ b.extract ib ++ a.extract ia).toList = out.toList ++ (b.toList.drop ib ++ a.toList.drop ia) := by
    rw [Array.toList_append, Array.toList_append, ext_all, ext_all, List.append_assoc]
  refine ⟨?_, ?_⟩
  · rw [e]
    refine (h.perm.append_right _).trans ?_
    have hA := List.take_append_drop ia a.toList
    have hB := List.take_append_drop ib b.toList
    refine List.Perm.trans ?_ (List.Perm.of_eq (by rw [hA, hB] : (a.toList.take ia ++ a.toList.drop ia) ++ (b.toList.take ib ++ b.toList.drop ib) = a.toList ++ b.toList))
    rw [List.append_assoc, List.append_assoc]
    refine List.Perm.append_left _ ?_
    rw [← List.append_assoc]
    exact List.perm_append_comm
  · show SL key _
    rw [e]
    refine List.pairwise_append.mpr ⟨h.sort, ?_, fun x hx z hz => ?_⟩
    · exact List.pairwise_append.mpr ⟨List.Pairwise.sublist (List.drop_sublist ib _) sb, List.Pairwise.sublist (List.drop_sublist ia _) sa, he⟩
    · rcases List.mem_append.mp hz with hz | hz
      · exact h.leB x hx z hz
      · exact h.leA x hx z hz

theorem get_some {xs : Array Keyed} {i : Nat} (h : i < xs.size) : ∃ x, xs[i]? = some x ∧ xs.toList.drop i = x :: xs.toList.drop (i + 1) ∧ x ∈ xs.toList := by
  have hl : i < xs.toList.length := by simpa using h
  exact ⟨xs.toList[i], by rw [← Array.getElem?_toList]; exact List.getElem?_eq_getElem hl, List.drop_eq_getElem_cons hl, List.getElem_mem hl⟩
theorem head_le {xs : Array Keyed} {i : Nat} {x : Keyed} (sx : SL key xs.toList) (hd : xs.toList.drop i = x :: xs.toList.drop (i + 1)) : ∀ z ∈ xs.toList.drop i, ¬ key z < key x := by
  have := List.Pairwise.sublist (List.drop_sublist i _) sx
  rw [hd] at this ⊢
  intro z hz
  rcases List.mem_cons.mp hz with rfl | hz
  · exact rlt_irrefl _
  · exact (List.pairwise_cons.mp this).1 z hz

/-- the threshold of a gallop over a sorted tail -/
theorem thresh {xs : Array Keyed} {i : Nat} (left : Bool) (k : Keyed) (sx : SL key xs.toList) : ∃ T, T ≤ xs.size - i ∧ (∀ j, j < xs.size - i → ∃ x, xs[i + j]? = some x ∧ x ∈ xs.toList ∧ past key left k x = decide (j < T)) := by
  have hp : ∀ (l : List Keyed), SL key l → ∃ T, T ≤ l.length ∧ ∀ j (hj : j < l.length), past key left k l[j] = decide (j < T) := by
    intro l
    induction l with
    | nil => intro _; exact ⟨0, Nat.le_refl _, fun j hj => absurd hj (Nat.not_lt_zero _)⟩
    | cons x l ih =>
      intro hs
      obtain ⟨h1, h2⟩ := List.pairwise_cons.mp hs
      by_cases hx : past key left k x = true
      · obtain ⟨T, hT, hj⟩ := ih h2
        refine ⟨T + 1, by simpa using hT, fun j hj' => ?_⟩
        cases j with
        | zero => simpa using hx
        | succ j => rw [List.getElem_cons_succ, hj j (by simpa using hj')]; simp
      · refine ⟨0, Nat.zero_le _, fun j hj' => ?_⟩
        have hx' : past key left k x = false := by simpa using hx
        have : past key left k (x :: l)[j] = false := by
          cases j with
          | zero => exact hx'
          | succ j =>
            have hjl : j < l.length := by simpa using hj'
            have hle := h1 l[j] (List.getElem_mem _)
            rw [List.getElem_cons_succ]
            unfold past at hx' ⊢
            cases left with
            | true =>
              simp only [if_true, decide_eq_false_iff_not] at hx' ⊢
              intro hlt; exact hx' (rlt_of_le_lt hle hlt)
            | false =>
              simp only [Bool.false_eq_true, if_false, Bool.not_eq_false', decide_eq_true_eq] at hx' ⊢
              exact rlt_of_lt_le hx' hle
        rw [this]; simp
  obtain ⟨T, hT, hj⟩ := hp (xs.toList.drop i) (List.Pairwise.sublist (List.drop_sublist i _) sx)
  refine ⟨T, by simpa using hT, fun j hj' => ?_⟩
  have hl : j < (xs.toList.drop i).length := by simpa using hj'
  refine ⟨(xs.toList.drop i)[j], ?_, List.mem_of_mem_drop (List.getElem_mem _), hj j hl⟩
  rw [← Array.getElem?_toList, ← List.getElem?_drop]
  exact List.getElem?_eq_getElem hl
end

theorem share2 {G : Prop} {P : Nat → Prop} (rest : (∀ z, P z) → G) (tail : ∀ z, P z) : G := rest tail
theorem shareA {G : Prop} {P : Array Keyed → Nat → Prop} (C : Array Keyed → Nat → Prop) (rest : (∀ o n, C o n → P o n) → G) (tail : ∀ o n, C o n → P o n) : G := rest tail
theorem wpS_tail1 {M : Model} {A : Around} {E : Value → Shared → Prop} {s : Shared} {σ β : Type} {Q : β → σ → Prop} {st : σ} {J : Nat → StateT σ Sem β} {p : StateT σ Sem β} (tail : ∀ z, wpS M A E s (J z) Q st) (rest : (∀ z, wpS M A E s (J z) Q st) → wpS M A E s p Q st) : wpS M A E s p Q st := rest tail
theorem wpS_tail2 {M : Model} {A : Around} {E : Value → Shared → Prop} {s : Shared} {σ β : Type} {Q : β → σ → Prop} {st : σ} {J : Array Keyed → Nat → StateT σ Sem β} {p : StateT σ Sem β} (C : Array Keyed → Nat → Prop) (tail : ∀ o n, C o n → wpS M A E s (J o n) Q st) (rest : (∀ o n, C o n → wpS M A E s (J o n) Q st) → wpS M A E s p Q st) : wpS M A E s p Q st := rest tail
end Mine35
end

-- part SortE35
section
set_option maxRecDepth 100000
set_option maxHeartbeats 4000000
set_option linter.unusedVariables false
namespace Mine35
open PySem PySem.W PySem.Calls PyProof.Rows

def mergeLoP : Array Keyed → Array Keyed → StateT SortSt Sem (Array Keyed) := sortPriv% PySem.Builtin.mergeLo
section
variable {prog : Program} {w : World} {A : Around} {E : Value → Shared → Prop} {s : Shared} {key : Keyed → Row} {a₀ : Array Keyed} {pd : Array (Nat × Nat × Nat)} {st : SortSt}

theorem Same.refl (st : SortSt) : Same st st := ⟨rfl, rfl, rfl, rfl⟩

theorem gallop_tail (H : Ans prog w A s key a₀) {left : Bool} {k : Keyed} {xs : Array Keyed} {i : Nat} {Q : Option Nat → SortSt → Prop} (hk : kindOf st = oneType') (hka : k ∈ a₀.toList) (hxs : ∀ x ∈ xs.toList, x ∈ a₀.toList) (sx : SL key xs.toList) (hi : i < xs.size)
    (h : ∀ T, i + T ≤ xs.size → (∀ z ∈ (xs.toList.drop i).take T, past key left k z = true) → (∀ z ∈ xs.toList.drop (i + T), past key left k z = false) → Q (some T) st) : wpS (model prog w) A E s (gallopP left k xs i (xs.size - i) 0) Q st := by
  obtain ⟨T, hT, hx⟩ := thresh (i := i) left k sx
  refine gallop_spec H hk hka (fun j hj => let ⟨x, e, m, p⟩ := hx j hj; ⟨x, e, hxs x m, p⟩) hT (by lia) (h T (by lia) (fun z hz => ?_) fun z hz => ?_)
  · obtain ⟨j, hj, rfl⟩ := List.mem_iff_getElem.mp hz
    have hj' : j < T ∧ j < xs.size - i := by simp at hj; lia
    obtain ⟨x, e, _, p⟩ := hx j hj'.2
    rw [List.getElem_take, List.getElem_drop]
    have e' : xs.toList[i + j]? = some x := by rw [Array.getElem?_toList]; exact e
    obtain ⟨_, rfl⟩ := List.getElem?_eq_some_iff.mp e'
    rw [p]; simpa using hj'.1
  · obtain ⟨j, hj, rfl⟩ := List.mem_iff_getElem.mp hz
    have hj' : T + j < xs.size - i := by simp at hj; lia
    obtain ⟨x, e, _, p⟩ := hx (T + j) hj'
    rw [List.getElem_drop]
    have e' : xs.toList[i + T + j]? = some x := by rw [Array.getElem?_toList, Nat.add_assoc]; exact e
    obtain ⟨_, rfl⟩ := List.getElem?_eq_some_iff.mp e'
    rw [p]; simp

theorem mergeLo_spec (H : Ans prog w A s key a₀) {a b : Array Keyed} {Q : Array Keyed → SortSt → Prop} (hk : kindOf st = oneType') (hA : ∀ x ∈ a.toList, x ∈ a₀.toList) (hB : ∀ x ∈ b.toList, x ∈ a₀.toList) (sa : SL key a.toList) (sb : SL key b.toList)
    (ha1 : 1 ≤ a.size) (hb1 : 1 ≤ b.size) (hfst : ∀ y, b[0]? = some y → ∀ z ∈ a.toList, ¬ key z < key y) (hlst : ∀ y ∈ b.toList, ∀ z ∈ a.toList.drop (a.size - 1), ¬ key z < key y)
    (h : ∀ out st', Same st st' → Res key a b out → Q out st') : wpS (model prog w) A E s (mergeLoP a b) Q st := by
  refine wpS_bind (m := _) (wpS_lift (wpAny_rule ⟨rfl, ?_⟩))
  obtain ⟨b0, eb0, hdb0, _⟩ := get_some (xs := b) (i := 0) hb1
  have m0 : MI key a b #[b0] 0 1 := by
    have hd : b.toList = b0 :: b.toList.drop 1 := hdb0
    refine ⟨?_, List.pairwise_singleton _ _, fun x hx y hy => ?_, fun x hx y hy => ?_⟩
    · rw [hd]; simp
    · rw [List.mem_singleton.mp hx]; exact hfst b0 eb0 y hy
    · rw [List.mem_singleton.mp hx]
      exact head_le sb hdb0 y (by rw [hdb0]; exact .tail _ hy)
  refine wpS_bind (m := _) (wpS_elem eb0 ?_)
  dsimp -zeta only
  by_cases h1 : 1 = b.size
  · rw [if_pos (by simpa using h1)]
    exact wpS_pure (h _ _ (.refl _) (m0.doneG sa sb (.inr (List.drop_of_length_le (by simp; lia)))))
  rw [if_neg (by simpa using h1)]
  have hlast : ∀ {ia ib : Nat}, ia + 1 = a.size → ∀ y ∈ b.toList.drop ib, ∀ z ∈ a.toList.drop ia, ¬ key z < key y := fun e y hy z hz => hlst y (List.mem_of_mem_drop hy) z (by rw [show a.size - 1 = _ - 1 from rfl, ← e]; exact hz)
  by_cases h2 : 0 + 1 = a.size
  · rw [if_pos (by simpa using h2)]
    exact wpS_pure (h _ _ (.refl _) (m0.lastG sa sb (hlast h2)))
  rw [if_neg (by simpa using h2)]
  refine wpS_bind (m := _) (wpS_get ?_)
  refine wpS_bind (m := _) (wpS_mono (wpS_forRange (I := fun x c st' => Same st st' ∧ ∃ out ia ib mg, c = (none, out, ia, ib, mg) ∧ MI key a b out ia ib ∧ ia + 1 < a.size ∧ ib < b.size ∧ x + 1 ≤ ia + ib)
    (Q := fun c st' => Same st st' ∧ ∃ r, c.1 = some r ∧ Res key a b r) ?step ?fin ⟨.refl _, #[b0], 0, 1, _, rfl, m0, by lia, by lia, by lia⟩) ?post)
  case fin =>
    rintro c st' ⟨_, out, ia, ib, mg, rfl, _, h3, h4, h5⟩
    lia
  case post =>
    rintro ⟨c1, c2⟩ st' ⟨hs, r, hc, hr⟩
    dsimp only at hc
    subst hc
    exact wpS_pure (h r st' hs hr)
  case step =>
    rintro x c st' _ hx ⟨hs, out, ia, ib, mg, rfl, mi, h3, h4, h5⟩
    dsimp -zeta only
    have hk' : kindOf st' = oneType' := hs.kind.trans hk
    refine wpS_bind (m := _) (wpS_mono (wpS_forRange (I := fun x' c st'' => st'' = st' ∧ ∃ out' ia' ib' ac bc, c = (none, out', ia', ib', ac, bc) ∧ MI key a b out' ia' ib' ∧ ia' + 1 < a.size ∧ ib' < b.size ∧ ia + ib + x' ≤ ia' + ib')
      (Q := fun c st'' => st'' = st' ∧ ((∃ r, c.1 = some r ∧ Res key a b r) ∨ ∃ out' ia' ib' ac bc, c = (none, out', ia', ib', ac, bc) ∧ MI key a b out' ia' ib' ∧ ia' + 1 < a.size ∧ ib' < b.size ∧ ia + ib + 1 ≤ ia' + ib')) ?istep ?ifin ⟨rfl, out, ia, ib, _, _, rfl, mi, h3, h4, by lia⟩) ?ipost)
    case ifin =>
      rintro c st'' ⟨_, out', ia', ib', ac, bc, rfl, _, h6, h7, h8⟩
      lia
    case istep =>
      rintro x' c st'' _ hx' ⟨rfl, out', ia', ib', ac, bc, rfl, mi', h6, h7, h8⟩
      dsimp -zeta only
      obtain ⟨yb, eb, db, mb⟩ := get_some h7
      obtain ⟨ya, ea, da, ma⟩ := get_some (xs := a) (i := ia') (by lia)
      refine wpS_bind (m := _) (wpS_elem eb (wpS_bind (m := _) (wpS_elem ea (wpS_bind (m := _) (wpS_lt2 H hk' (hB _ mb) (hA _ ma) ?_)))))
      dsimp -zeta only
      by_cases hc : key yb < key ya
      · rw [if_pos (by simpa using hc)]
        refine wpS_bind (m := _) (wpS_elem eb ?_)
        have mi2 := mi'.pushB eb sb fun z hz => rlt_asymm (rlt_of_lt_le hc (head_le sa da z hz))
        by_cases h9 : ib' + 1 = b.size
        · rw [if_pos (by simpa using h9)]
          exact wpS_pure ⟨rfl, .inl ⟨_, rfl, mi2.doneG sa sb (.inr (List.drop_of_length_le (by simp; lia)))⟩⟩
        · rw [if_neg (by simpa using h9)]
          split
          · exact wpS_pure ⟨rfl, .inr ⟨_, _, _, _, _, rfl, mi2, h6, by lia, by lia⟩⟩
          · exact wpS_pure ⟨rfl, _, _, _, _, _, rfl, mi2, h6, by lia, by lia⟩
      · rw [if_neg (by simpa using hc)]
        refine wpS_bind (m := _) (wpS_elem ea ?_)
        have mi2 := mi'.pushA ea sa fun z hz => rle_trans hc (head_le sb db z hz)
        by_cases h9 : ia' + 1 + 1 = a.size
        · rw [if_pos (by simpa using h9)]
          exact wpS_pure ⟨rfl, .inl ⟨_, rfl, mi2.lastG sa sb (hlast h9)⟩⟩
        · rw [if_neg (by simpa using h9)]
          split
          · exact wpS_pure ⟨rfl, .inr ⟨_, _, _, _, _, rfl, mi2, by lia, h7, by lia⟩⟩
          · exact wpS_pure ⟨rfl, _, _, _, _, _, rfl, mi2, by lia, h7, by lia⟩
    case ipost =>
      rintro ⟨c1, c2⟩ st'' ⟨rfl, hc⟩
      rcases hc with ⟨r, hc, hr⟩ | ⟨out', ia', ib', ac, bc, hc, mi', h6, h7, h8⟩
      · dsimp only at hc
        subst hc
        exact wpS_pure ⟨hs, r, rfl, hr⟩
      · cases hc
        dsimp -zeta only
        refine wpS_bind (m := _) (wpS_lift (wpAny_rule ⟨rfl, ?_⟩))
        refine wpS_bind (m := _) (wpS_mono (wpS_forRange (I := fun x' c st3 => Same st st3 ∧ ∃ out3 ia3 ib3 mg3 ac bc, c = (none, out3, ia3, ib3, mg3, ac, bc) ∧ MI key a b out3 ia3 ib3 ∧ ia3 + 1 < a.size ∧ ib3 < b.size ∧ ia' + ib' + x' ≤ ia3 + ib3)
          (Q := fun c st3 => Same st st3 ∧ ((∃ r, c.1 = some r ∧ Res key a b r) ∨ ∃ out3 ia3 ib3 mg3 ac bc, c = (none, out3, ia3, ib3, mg3, ac, bc) ∧ MI key a b out3 ia3 ib3 ∧ ia3 + 1 < a.size ∧ ib3 < b.size ∧ ia' + ib' + 1 ≤ ia3 + ib3)) ?gstep ?gfin ⟨hs, out', ia', ib', _, _, _, rfl, mi', h6, h7, by lia⟩) ?gpost)
        case gfin =>
          rintro c st3 ⟨_, out3, ia3, ib3, mg3, ac, bc, rfl, _, h9, h10, h11⟩
          lia
        case gpost =>
          rintro ⟨c1, c2⟩ st3 ⟨hs3, hc⟩
          rcases hc with ⟨r, hc, hr⟩ | ⟨out3, ia3, ib3, mg3, ac, bc, hc, mi3, h9, h10, h11⟩
          · dsimp only at hc
            subst hc
            exact wpS_pure ⟨hs3, r, rfl, hr⟩
          · cases hc
            dsimp -zeta only
            refine wpS_bind (m := _) (wpS_modify (wpS_pure ⟨⟨hs3.kind, hs3.arr, hs3.pend, hs3.failed⟩, out3, ia3, ib3, _, rfl, mi3, h9, h10, by lia⟩))
        case gstep =>
          rintro x3 c st3 _ hx3 ⟨hs3, out3, ia3, ib3, mg3, ac, bc, rfl, mi3, h9, h10, h11⟩
          dsimp -zeta only
          extract_lets +onlyGivenNames -underBinder s1 o1 s2 i1 s3 b1 s4 mgv s5 acv bcv jp
          refine wpS_tail1 (J := jp ()) ?_ fun tail => ?_
          rotate_left
          · clear_value jp
            split
            · exact tail _
            · exact tail _
          intro mg4
          dsimp -zeta only [jp, s1, o1, s2, i1, s3, b1, s4, mgv, s5, acv, bcv]
          refine wpS_bind (m := _) (wpS_modify ?_)
          obtain ⟨yb, eb, db, mb⟩ := get_some h10
          refine wpS_bind (m := _) (wpS_elem eb ?_)
          refine wpS_bind (m := _) (gallop_tail H (by exact hs3.kind.trans hk) (hB _ mb) hA sa (by lia) fun T hT hT1 hT2 => ?_)
          dsimp -zeta only
          have mi4 := mi3.appA sa T hT fun z hz y hy => by
            have := hT1 z hz
            unfold past at this
            simp only [Bool.false_eq_true, if_false, Bool.not_eq_true', decide_eq_false_iff_not] at this
            exact rle_trans this (head_le sb db y hy)
          have hrest : ∀ z ∈ a.toList.drop (ia3 + T), key yb < key z := fun z hz => by
            have := hT2 z hz
            unfold past at this
            simpa using this
          extract_lets +onlyGivenNames -underBinder ac2 jp2
          refine wpS_tail2 (J := jp2 ()) (C := fun out4 ia4 => MI key a b out4 ia4 ib3 ∧ (∀ z ∈ a.toList.drop ia4, key yb < key z) ∧ ia4 + 1 < a.size ∧ ia' + ib' + x3 ≤ ia4 + ib3) ?_ fun tail => ?_
          rotate_left
          · clear_value jp2
            by_cases hT0 : T > 0
            · rw [if_pos hT0]
              dsimp only
              by_cases h12 : ia3 + T + 1 = a.size
              · rw [if_pos (by simpa using h12)]
                exact wpS_pure ⟨⟨hs3.kind, hs3.arr, hs3.pend, hs3.failed⟩, .inl ⟨_, rfl, mi4.lastG sa sb (hlast h12)⟩⟩
              rw [if_neg (by simpa using h12)]
              by_cases h13 : ia3 + T = a.size
              · rw [if_pos (by simpa using h13)]
                exact wpS_pure ⟨⟨hs3.kind, hs3.arr, hs3.pend, hs3.failed⟩, .inl ⟨_, rfl, mi4.doneG sa sb (.inl (List.drop_of_length_le (by simp; lia)))⟩⟩
              rw [if_neg (by simpa using h13)]
              exact tail _ _ ⟨mi4, hrest, by lia, by lia⟩
            · rw [if_neg hT0]
              have hT00 : T = 0 := by lia
              exact tail out3 ia3 ⟨mi3, by have := hrest; rw [hT00] at this; exact this, h9, h11⟩
          clear mi4 hrest
          rintro out4 ia4 ⟨mi4, hrest, h14, h15⟩
          dsimp -zeta only [jp2, ac2]
          refine wpS_bind (m := _) (wpS_elem eb ?_)
          extract_lets +onlyGivenNames -underBinder ov bv
          dsimp -zeta only [ov, bv]
          have mi5 := mi4.pushB eb sb fun z hz => rlt_asymm (hrest z hz)
          by_cases h16 : ib3 + 1 = b.size
          · rw [if_pos (by simpa using h16)]
            exact wpS_pure ⟨⟨hs3.kind, hs3.arr, hs3.pend, hs3.failed⟩, .inl ⟨_, rfl, mi5.doneG sa sb (.inr (List.drop_of_length_le (by simp; lia)))⟩⟩
          rw [if_neg (by simpa using h16)]
          obtain ⟨ya, ea, da, ma⟩ := get_some (xs := a) (i := ia4) (by lia)
          refine wpS_bind (m := _) (wpS_elem ea ?_)
          refine wpS_bind (m := _) (gallop_tail H (by exact hs3.kind.trans hk) (hA _ ma) hB sb (by lia) fun U hU hU1 hU2 => ?_)
          dsimp -zeta only
          have mi6 := MI.appB sb U (ib3 + 1) _ mi5 hU fun z hz y hy => by
            have := hU1 z hz
            unfold past at this
            simp only [if_true, decide_eq_true_eq] at this
            exact rlt_asymm (rlt_of_lt_le this (head_le sa da y hy))
          have hrest2 : ∀ z ∈ b.toList.drop (ib3 + 1 + U), ¬ key z < key ya := fun z hz => by
            have := hU2 z hz
            unfold past at this
            simpa using this
          extract_lets +onlyGivenNames -underBinder bc2 jp3
          refine wpS_tail2 (J := jp3 ()) (C := fun out5 ib5 => MI key a b out5 ia4 ib5 ∧ (∀ z ∈ b.toList.drop ib5, ¬ key z < key ya) ∧ ib5 < b.size ∧ ia' + ib' + x3 + 1 ≤ ia4 + ib5) ?_ fun tail => ?_
          rotate_left
          · clear_value jp3
            by_cases hU0 : U > 0
            · rw [if_pos hU0]
              dsimp only
              by_cases h17 : ib3 + 1 + U = b.size
              · rw [if_pos (by simpa using h17)]
                exact wpS_pure ⟨⟨hs3.kind, hs3.arr, hs3.pend, hs3.failed⟩, .inl ⟨_, rfl, mi6.doneG sa sb (.inr (List.drop_of_length_le (by simp; lia)))⟩⟩
              rw [if_neg (by simpa using h17)]
              exact tail _ _ ⟨mi6, hrest2, by lia, by lia⟩
            · rw [if_neg hU0]
              have hU00 : U = 0 := by lia
              exact tail (out4.push yb) (ib3 + 1) ⟨mi5, by have := hrest2; rw [hU00] at this; exact this, by lia, by lia⟩
          clear mi6 hrest2
          rintro out5 ib5 ⟨mi6, hrest2, h18, h19⟩
          dsimp -zeta only [jp3, bc2]
          refine wpS_bind (m := _) (wpS_elem ea ?_)
          dsimp only
          have mi7 := mi6.pushA ea sa hrest2
          by_cases h20 : ia4 + 1 + 1 = a.size
          · rw [if_pos (by simpa using h20)]
            exact wpS_pure ⟨⟨hs3.kind, hs3.arr, hs3.pend, hs3.failed⟩, .inl ⟨_, rfl, mi7.lastG sa sb (hlast h20)⟩⟩
          rw [if_neg (by simpa using h20)]
          split
          · exact wpS_pure ⟨⟨hs3.kind, hs3.arr, hs3.pend, hs3.failed⟩, .inr ⟨_, _, _, _, _, _, rfl, mi7, by lia, h18, by lia⟩⟩
          · exact wpS_pure ⟨⟨hs3.kind, hs3.arr, hs3.pend, hs3.failed⟩, _, _, _, _, _, _, rfl, mi7, by lia, h18, by lia⟩
end
end Mine35
end

-- part SortF35
section
set_option maxRecDepth 100000
set_option maxHeartbeats 4000000
set_option linter.unusedVariables false
namespace Mine35
open PySem PySem.W PySem.Calls PyProof.Rows

structure MH (key : Keyed → Row) (a b out : Array Keyed) (na nb : Nat) : Prop where
  perm : out.toList.Perm (a.toList.drop na ++ b.toList.drop nb)
  sort : SL key out.toList.reverse
  geA : ∀ x ∈ out.toList, ∀ y ∈ a.toList.take na, ¬ key x < key y
  geB : ∀ x ∈ out.toList, ∀ y ∈ b.toList.take nb, ¬ key x < key y

section
variable {key : Keyed → Row} {a b out : Array Keyed} {na nb : Nat}

theorem MH.symm (h : MH key a b out na nb) : MH key b a out nb na := ⟨h.perm.trans List.perm_append_comm, h.sort, h.geB, h.geA⟩

theorem get_prev {xs : Array Keyed} {n : Nat} (h : n < xs.size) : ∃ x, xs[n]? = some x ∧ xs.toList.take (n + 1) = xs.toList.take n ++ [x] ∧ xs.toList.drop n = x :: xs.toList.drop (n + 1) ∧ x ∈ xs.toList := by
  have hl : n < xs.toList.length := by simpa using h
  exact ⟨xs.toList[n], by rw [← Array.getElem?_toList]; exact List.getElem?_eq_getElem hl, by rw [List.take_add_one, List.getElem?_eq_getElem hl]; rfl, List.drop_eq_getElem_cons hl, List.getElem_mem hl⟩
theorem last_ge {xs : Array Keyed} {n : Nat} {x : Keyed} (sx : SL key xs.toList) (ht : xs.toList.take (n + 1) = xs.toList.take n ++ [x]) : ∀ z ∈ xs.toList.take (n + 1), ¬ key x < key z := by
  have := List.Pairwise.sublist (List.take_sublist (n + 1) _) sx
  rw [ht] at this ⊢
  intro z hz
  rcases List.mem_append.mp hz with hz | hz
  · exact (List.pairwise_append.mp this).2.2 z hz x (List.mem_singleton.mpr rfl)
  · rw [List.mem_singleton.mp hz]; exact rlt_irrefl _

theorem MH.pushA {n : Nat} (h : MH key a b out (n + 1) nb) {y : Keyed} (hn : n < a.size) (hy : a[n]? = some y) (sa : SL key a.toList) (hb : ∀ z ∈ b.toList.take nb, ¬ key y < key z) : MH key a b (out.push y) n nb := by
  obtain ⟨y', ey, ht, hd, _⟩ := get_prev hn
  rw [hy] at ey; cases ey
  refine ⟨?_, ?_, fun x hx z hz => ?_, fun x hx z hz => ?_⟩
  · rw [Array.toList_push, hd]
    refine (h.perm.append_right _).trans ?_
    rw [List.cons_append]
    exact List.perm_append_singleton _ _
  · rw [Array.toList_push, List.reverse_append, List.reverse_singleton, List.singleton_append]
    refine List.pairwise_cons.mpr ⟨fun z hz => ?_, h.sort⟩
    exact h.geA z (List.mem_reverse.mp hz) y (by rw [ht]; simp)
  · rw [Array.toList_push] at hx
    rcases List.mem_append.mp hx with hx | hx
    · exact h.geA x hx z (by rw [ht]; exact List.mem_append_left _ hz)
    · rw [List.mem_singleton.mp hx]
      exact last_ge sa ht z (by rw [ht]; exact List.mem_append_left _ hz)
  · rw [Array.toList_push] at hx
    rcases List.mem_append.mp hx with hx | hx
    · exact h.geB x hx z hz
    · rw [List.mem_singleton.mp hx]; exact hb z hz
theorem MH.pushB {n : Nat} (h : MH key a b out na (n + 1)) {y : Keyed} (hn : n < b.size) (hy : b[n]? = some y) (sb : SL key b.toList) (ha : ∀ z ∈ a.toList.take na, ¬ key y < key z) : MH key a b (out.push y) na n := (h.symm.pushA hn hy sb ha).symm

theorem MH.appA (sa : SL key a.toList) : ∀ (k at_ : Nat) (out : Array Keyed), MH key a b out (at_ + k) nb → at_ + k ≤ a.size → (∀ z ∈ a.toList.drop at_, ∀ y ∈ b.toList.take nb, ¬ key z < key y) → MH key a b (out ++ (a.extract at_ (at_ + k)).reverse) at_ nb
  | 0, at_, out, h, _, _ => by
    have : out ++ (a.extract at_ (at_ + 0)).reverse = out := by
      apply Array.ext'; rw [Array.toList_append, Array.toList_reverse, ext_list]; simp
    rw [this]; exact h
  | k + 1, at_, out, h, hk, hb => by
    have hlt : at_ + k < a.size := by lia
    obtain ⟨y, ey, ht, hd, hm⟩ := get_prev hlt
    have h1 := MH.pushA (n := at_ + k) h hlt ey sa (hb y (by
      have : a.toList.drop (at_ + k) = (a.toList.drop at_).drop k := by rw [List.drop_drop]
      rw [this] at hd
      exact List.mem_of_mem_drop (by rw [hd]; exact .head _)))
    have h2 := MH.appA sa k at_ (out.push y) h1 (by lia) hb
    have e : out ++ (a.extract at_ (at_ + (k + 1))).reverse = out.push y ++ (a.extract at_ (at_ + k)).reverse := by
      apply Array.ext'
      have e2 : (a.toList.drop at_).take (k + 1) = (a.toList.drop at_).take k ++ [y] := by
        rw [List.take_add_one, List.getElem?_drop, Array.getElem?_toList, ey]; rfl
      rw [Array.toList_append, Array.toList_append, Array.toList_push, Array.toList_reverse, Array.toList_reverse, ext_list, ext_list, show at_ + (k + 1) - at_ = k + 1 by lia, show at_ + k - at_ = k by lia, e2, List.reverse_append]
      simp
    rw [e]; exact h2
theorem MH.appB (h : MH key a b out na nb) (sb : SL key b.toList) (at_ : Nat) (h1 : at_ ≤ nb) (h2 : nb ≤ b.size) (ha : ∀ z ∈ b.toList.drop at_, ∀ y ∈ a.toList.take na, ¬ key z < key y) : MH key a b (out ++ (b.extract at_ nb).reverse) na at_ := by
  have := MH.appA sb (nb - at_) at_ out (by rw [show at_ + (nb - at_) = nb by lia]; exact h.symm) (by lia) ha
  rw [show at_ + (nb - at_) = nb by lia] at this
  exact this.symm
theorem MH.appA' (h : MH key a b out na nb) (sa : SL key a.toList) (at_ : Nat) (h1 : at_ ≤ na) (h2 : na ≤ a.size) (hb : ∀ z ∈ a.toList.drop at_, ∀ y ∈ b.toList.take nb, ¬ key z < key y) : MH key a b (out ++ (a.extract at_ na).reverse) at_ nb :=
  (MH.appB h.symm sa at_ h1 h2 hb).symm

theorem ext_take (a : Array Keyed) (n : Nat) : (a.extract 0 n).toList = a.toList.take n := by rw [ext_list]; simp

theorem MH.firstG (h : MH key a b out na nb) (sa : SL key a.toList) (sb : SL key b.toList) (he : ∀ y ∈ b.toList.take nb, ∀ z ∈ a.toList.take na, ¬ key z < key y) : Res key a b (b.extract 0 nb ++ a.extract 0 na ++ out.reverse) := by
  have e : (b.extract 0 nb ++ a.extract 0 na ++ out.reverse).toList = (b.toList.take nb ++ a.toList.take na) ++ out.toList.reverse := by
    rw [Array.toList_append, Array.toList_append, ext_take, ext_take, Array.toList_reverse]
  refine ⟨?_, ?_⟩
  · rw [e]
    have hA := List.take_append_drop na a.toList
    have hB := List.take_append_drop nb b.toList
    refine (List.Perm.append_left _ ((List.reverse_perm _).trans h.perm)).trans ?_
    refine List.Perm.trans ?_ (List.Perm.of_eq (by rw [hA, hB] : (a.toList.take na ++ a.toList.drop na) ++ (b.toList.take nb ++ b.toList.drop nb) = a.toList ++ b.toList))
    refine (List.Perm.append_right _ List.perm_append_comm).trans ?_
    rw [List.append_assoc, List.append_assoc]
    refine List.Perm.append_left _ ?_
    rw [← List.append_assoc, ← List.append_assoc]
    exact List.Perm.append_right _ List.perm_append_comm
  · show SL key _
    rw [e]
    refine List.pairwise_append.mpr ⟨List.pairwise_append.mpr ⟨List.Pairwise.sublist (List.take_sublist nb _) sb, List.Pairwise.sublist (List.take_sublist na _) sa, he⟩, h.sort, fun x hx z hz => ?_⟩
    rcases List.mem_append.mp hx with hx | hx
    · exact h.geB z (List.mem_reverse.mp hz) x hx
    · exact h.geA z (List.mem_reverse.mp hz) x hx
theorem Res.symm {out : Array Keyed} (h : Res key b a out) : Res key a b out := ⟨h.perm.trans List.perm_append_comm, h.sort⟩
theorem MH.doneG (h : MH key a b out na nb) (sa : SL key a.toList) (sb : SL key b.toList) (he : a.toList.take na = [] ∨ b.toList.take nb = []) : Res key a b (a.extract 0 na ++ b.extract 0 nb ++ out.reverse) := by
  refine Res.symm (MH.firstG h.symm sb sa fun y hy z hz => ?_)
  rcases he with he | he
  · rw [he] at hy; cases hy
  · rw [he] at hz; cases hz
end

def mergeHiP : Array Keyed → Array Keyed → StateT SortSt Sem (Array Keyed) := sortPriv% PySem.Builtin.mergeHi
section
variable {prog : Program} {w : World} {A : Around} {E : Value → Shared → Prop} {s : Shared} {key : Keyed → Row} {a₀ : Array Keyed} {pd : Array (Nat × Nat × Nat)} {st : SortSt}

theorem gallop_pre (H : Ans prog w A s key a₀) {left : Bool} {k : Keyed} {xs : Array Keyed} {n : Nat} {Q : Option Nat → SortSt → Prop} (hk : kindOf st = oneType') (hka : k ∈ a₀.toList) (hxs : ∀ x ∈ xs.toList, x ∈ a₀.toList) (sx : SL key xs.toList) (h0 : 0 < n) (hn : n ≤ xs.size)
    (h : ∀ T, T ≤ n → (∀ z ∈ xs.toList.take T, past key left k z = true) → (∀ z ∈ xs.toList.drop T, ∀ i, xs.toList[i]? = some z → i < n → T ≤ i → past key left k z = false) → (∀ i z, xs.toList[i]? = some z → T ≤ i → i < n → past key left k z = false) → Q (some T) st) : wpS (model prog w) A E s (gallopP left k xs 0 n (n - 1)) Q st := by
  have sx' : SL key (xs.extract 0 n).toList := by rw [ext_take]; exact List.Pairwise.sublist (List.take_sublist n _) sx
  have hsz : (xs.extract 0 n).size = n := by simp; lia
  obtain ⟨T, hT, hx⟩ := thresh (i := 0) left k sx'
  rw [hsz] at hT hx
  have hx' : ∀ i, i < n → ∃ x, xs[i]? = some x ∧ x ∈ xs.toList ∧ past key left k x = decide (i < T) := fun i hi => by
    obtain ⟨x, e, m, p⟩ := hx i (by lia)
    rw [Nat.zero_add] at e
    have e' : xs[i]? = some x := by
      rw [← Array.getElem?_toList, ext_take, List.getElem?_take, if_pos hi] at e
      rw [← Array.getElem?_toList]; exact e
    exact ⟨x, e', List.mem_of_getElem? (by rw [Array.getElem?_toList]; exact e'), p⟩
  have hfalse : ∀ i z, xs.toList[i]? = some z → T ≤ i → i < n → past key left k z = false := fun i z e h1 h2 => by
    obtain ⟨x, e', _, p⟩ := hx' i h2
    rw [Array.getElem?_toList, e'] at e; cases e
    rw [p]; simp; lia
  refine gallop_spec H hk hka (fun j hj => let ⟨x, e, m, p⟩ := hx' j hj; ⟨x, by rw [Nat.zero_add]; exact e, hxs x m, p⟩) (by lia) (by lia) (h T (by lia) (fun z hz => ?_) (fun z hz i e h1 h2 => hfalse i z e h2 h1) hfalse)
  obtain ⟨j, hj, rfl⟩ := List.mem_iff_getElem.mp hz
  have hj' : j < T := by simp at hj; lia
  obtain ⟨x, e, _, p⟩ := hx' j (by lia)
  rw [List.getElem_take]
  have e' : xs.toList[j]? = some x := by rw [Array.getElem?_toList]; exact e
  obtain ⟨_, rfl⟩ := List.getElem?_eq_some_iff.mp e'
  rw [p]; simpa using hj'
end
end Mine35
end

-- part SortG35
section
set_option maxRecDepth 100000
set_option maxHeartbeats 4000000
set_option linter.unusedVariables false
namespace Mine35
open PySem PySem.W PySem.Calls PyProof.Rows

section
variable {prog : Program} {w : World} {A : Around} {E : Value → Shared → Prop} {s : Shared} {key : Keyed → Row} {a₀ : Array Keyed} {pd : Array (Nat × Nat × Nat)} {st : SortSt}

theorem MH.memA {a b out : Array Keyed} {na nb : Nat} (h : MH key a b out na nb) {z : Keyed} {i : Nat} (e : a.toList[i]? = some z) (hi : na ≤ i) : z ∈ out.toList := by
  refine h.perm.mem_iff.mpr (List.mem_append_left _ ?_)
  refine List.mem_of_getElem? (i := i - na) ?_
  rw [List.getElem?_drop, show na + (i - na) = i by lia]; exact e
theorem drop_get {xs : List Keyed} {n : Nat} {z : Keyed} (h : z ∈ xs.drop n) : ∃ i, n ≤ i ∧ xs[i]? = some z := by
  obtain ⟨j, hj, rfl⟩ := List.mem_iff_getElem.mp h
  refine ⟨n + j, by lia, ?_⟩
  rw [List.getElem_drop]
  exact List.getElem?_eq_getElem (by simp at hj; lia)

theorem mergeHi_spec (H : Ans prog w A s key a₀) {a b : Array Keyed} {Q : Array Keyed → SortSt → Prop} (hk : kindOf st = oneType') (hA : ∀ x ∈ a.toList, x ∈ a₀.toList) (hB : ∀ x ∈ b.toList, x ∈ a₀.toList) (sa : SL key a.toList) (sb : SL key b.toList)
    (ha1 : 1 ≤ a.size) (hb1 : 1 ≤ b.size) (hfst : ∀ y, b[0]? = some y → ∀ z ∈ a.toList, ¬ key z < key y) (hlst : ∀ y ∈ b.toList, ∀ z ∈ a.toList.drop (a.size - 1), ¬ key z < key y)
    (h : ∀ out st', Same st st' → Res key a b out → Q out st') : wpS (model prog w) A E s (mergeHiP a b) Q st := by
  refine wpS_bind (m := _) (wpS_lift (wpAny_rule ⟨rfl, ?_⟩))
  obtain ⟨al, eal, htal, hdal, mal⟩ := get_prev (xs := a) (n := a.size - 1) (by lia)
  have hnil : a.toList.drop (a.size - 1 + 1) = [] := List.drop_of_length_le (by simp; lia)
  have m0 : MH key a b #[al] (a.size - 1) b.size := by
    refine ⟨?_, List.pairwise_singleton _ _, fun x hx y hy => ?_, fun x hx y hy => ?_⟩
    · rw [hdal, hnil, List.drop_of_length_le (by simp)]; simp
    · rw [List.mem_singleton.mp hx]
      exact last_ge sa htal y (by rw [htal]; exact List.mem_append_left _ hy)
    · rw [List.mem_singleton.mp hx]
      exact hlst y (List.mem_of_mem_take hy) al (by rw [hdal]; exact .head _)
  refine wpS_bind (m := _) (wpS_elem eal ?_)
  dsimp -zeta only
  have hfirst : ∀ {na nb : Nat}, nb = 1 → ∀ y ∈ b.toList.take nb, ∀ z ∈ a.toList.take na, ¬ key z < key y := fun e y hy z hz => by
    subst e
    obtain ⟨b0, eb0, hdb0, _⟩ := get_some (xs := b) (i := 0) hb1
    have : b.toList = b0 :: b.toList.drop 1 := hdb0
    rw [this] at hy
    have : y = b0 := by simpa using hy
    subst this
    exact hfst y eb0 z (List.mem_of_mem_take hz)
  by_cases h1 : a.size - 1 = 0
  · rw [if_pos (by simpa using h1)]
    exact wpS_pure (h _ _ (.refl _) (m0.doneG sa sb (.inl (by rw [h1]; rfl))))
  rw [if_neg (by simpa using h1)]
  by_cases h2 : b.size = 1
  · rw [if_pos (by simpa using h2)]
    exact wpS_pure (h _ _ (.refl _) (m0.firstG sa sb (hfirst h2)))
  rw [if_neg (by simpa using h2)]
  refine wpS_bind (m := _) (wpS_get ?_)
  refine wpS_bind (m := _) (wpS_mono (wpS_forRange (I := fun x c st' => Same st st' ∧ ∃ na nb out mg, c = (none, na, nb, out, mg) ∧ MH key a b out na nb ∧ 1 ≤ na ∧ na ≤ a.size ∧ 2 ≤ nb ∧ nb ≤ b.size ∧ x + 1 + na + nb ≤ a.size + b.size)
    (Q := fun c st' => Same st st' ∧ ∃ r, c.1 = some r ∧ Res key a b r) ?step ?fin ⟨.refl _, a.size - 1, b.size, #[al], _, rfl, m0, by lia, by lia, by lia, by lia, by lia⟩) ?post)
  case fin =>
    rintro c st' ⟨_, na, nb, out, mg, rfl, _, h3, h4, h5, h6, h7⟩
    lia
  case post =>
    rintro ⟨c1, c2⟩ st' ⟨hs, r, hc, hr⟩
    dsimp only at hc
    subst hc
    exact wpS_pure (h r st' hs hr)
  case step =>
    rintro x c st' _ hx ⟨hs, na, nb, out, mg, rfl, mi, h3, h4, h5, h6, h7⟩
    dsimp -zeta only
    have hk' : kindOf st' = oneType' := hs.kind.trans hk
    refine wpS_bind (m := _) (wpS_mono (wpS_forRange (I := fun x' c st'' => st'' = st' ∧ ∃ na' nb' out' ac bc, c = (none, na', nb', out', ac, bc) ∧ MH key a b out' na' nb' ∧ 1 ≤ na' ∧ na' ≤ a.size ∧ 2 ≤ nb' ∧ nb' ≤ b.size ∧ x' + na' + nb' ≤ na + nb)
      (Q := fun c st'' => st'' = st' ∧ ((∃ r, c.1 = some r ∧ Res key a b r) ∨ ∃ na' nb' out' ac bc, c = (none, na', nb', out', ac, bc) ∧ MH key a b out' na' nb' ∧ 1 ≤ na' ∧ na' ≤ a.size ∧ 2 ≤ nb' ∧ nb' ≤ b.size ∧ 1 + na' + nb' ≤ na + nb)) ?istep ?ifin ⟨rfl, na, nb, out, _, _, rfl, mi, h3, h4, h5, h6, by lia⟩) ?ipost)
    case ifin =>
      rintro c st'' ⟨_, na', nb', out', ac, bc, rfl, _, g1, g2, g3, g4, g5⟩
      lia
    case istep =>
      rintro x' c st'' _ hx' ⟨rfl, na', nb', out', ac, bc, rfl, mi', g1, g2, g3, g4, g5⟩
      dsimp -zeta only
      obtain ⟨na1, rfl⟩ : ∃ k, na' = k + 1 := ⟨na' - 1, by lia⟩
      obtain ⟨nb1, rfl⟩ : ∃ k, nb' = k + 1 := ⟨nb' - 1, by lia⟩
      obtain ⟨yb, eb, tb, db, mb⟩ := get_prev (xs := b) (n := nb1) (by lia)
      obtain ⟨ya, ea, ta, da, ma⟩ := get_prev (xs := a) (n := na1) (by lia)
      refine wpS_bind (m := _) (wpS_elem eb (wpS_bind (m := _) (wpS_elem ea (wpS_bind (m := _) (wpS_lt2 H hk' (hB _ mb) (hA _ ma) ?_)))))
      dsimp -zeta only
      by_cases hc : key yb < key ya
      · rw [if_pos (by simpa using hc)]
        refine wpS_bind (m := _) (wpS_elem ea ?_)
        have mi2 := mi'.pushA (by lia) ea sa fun z hz => rlt_asymm (rlt_of_le_lt (last_ge sb tb z hz) hc)
        by_cases h9 : na1 = 0
        · rw [if_pos (by simpa using h9)]
          exact wpS_pure ⟨rfl, .inl ⟨_, rfl, mi2.doneG sa sb (.inl (by rw [h9]; rfl))⟩⟩
        · rw [if_neg (by simpa using h9)]
          split
          · exact wpS_pure ⟨rfl, .inr ⟨_, _, _, _, _, rfl, mi2, by lia, by lia, g3, g4, by lia⟩⟩
          · exact wpS_pure ⟨rfl, _, _, _, _, _, rfl, mi2, by lia, by lia, g3, g4, by lia⟩
      · rw [if_neg (by simpa using hc)]
        refine wpS_bind (m := _) (wpS_elem eb ?_)
        have mi2 := mi'.pushB (by lia) eb sb fun z hz => rle_trans (last_ge sa ta z hz) hc
        by_cases h9 : nb1 = 1
        · rw [if_pos (by simpa using h9)]
          exact wpS_pure ⟨rfl, .inl ⟨_, rfl, mi2.firstG sa sb (hfirst h9)⟩⟩
        · rw [if_neg (by simpa using h9)]
          split
          · exact wpS_pure ⟨rfl, .inr ⟨_, _, _, _, _, rfl, mi2, g1, g2, by lia, by lia, by lia⟩⟩
          · exact wpS_pure ⟨rfl, _, _, _, _, _, rfl, mi2, g1, g2, by lia, by lia, by lia⟩
    case ipost =>
      rintro ⟨c1, c2⟩ st'' ⟨rfl, hc⟩
      rcases hc with ⟨r, hc, hr⟩ | ⟨na', nb', out', ac, bc, hc, mi', g1, g2, g3, g4, g5⟩
      · dsimp only at hc
        subst hc
        exact wpS_pure ⟨hs, r, rfl, hr⟩
      · cases hc
        dsimp -zeta only
        refine wpS_bind (m := _) (wpS_lift (wpAny_rule ⟨rfl, ?_⟩))
        refine wpS_bind (m := _) (wpS_mono (wpS_forRange (I := fun x' c st3 => Same st st3 ∧ ∃ na3 nb3 out3 mg3 ac bc, c = (none, na3, nb3, out3, mg3, ac, bc) ∧ MH key a b out3 na3 nb3 ∧ 1 ≤ na3 ∧ na3 ≤ a.size ∧ 2 ≤ nb3 ∧ nb3 ≤ b.size ∧ x' + na3 + nb3 ≤ na' + nb')
          (Q := fun c st3 => Same st st3 ∧ ((∃ r, c.1 = some r ∧ Res key a b r) ∨ ∃ na3 nb3 out3 mg3 ac bc, c = (none, na3, nb3, out3, mg3, ac, bc) ∧ MH key a b out3 na3 nb3 ∧ 1 ≤ na3 ∧ na3 ≤ a.size ∧ 2 ≤ nb3 ∧ nb3 ≤ b.size ∧ 1 + na3 + nb3 ≤ na' + nb')) ?gstep ?gfin ⟨hs, na', nb', out', _, _, _, rfl, mi', g1, g2, g3, g4, by lia⟩) ?gpost)
        case gfin =>
          rintro c st3 ⟨_, na3, nb3, out3, mg3, ac, bc, rfl, _, e1, e2, e3, e4, e5⟩
          lia
        case gpost =>
          rintro ⟨c1, c2⟩ st3 ⟨hs3, hc⟩
          rcases hc with ⟨r, hc, hr⟩ | ⟨na3, nb3, out3, mg3, ac, bc, hc, mi3, e1, e2, e3, e4, e5⟩
          · dsimp only at hc
            subst hc
            exact wpS_pure ⟨hs3, r, rfl, hr⟩
          · cases hc
            dsimp -zeta only
            refine wpS_bind (m := _) (wpS_modify (wpS_pure ⟨⟨hs3.kind, hs3.arr, hs3.pend, hs3.failed⟩, na3, nb3, out3, _, rfl, mi3, e1, e2, e3, e4, by lia⟩))
        case gstep =>
          rintro x3 c st3 _ hx3 ⟨hs3, na3, nb3, out3, mg3, ac, bc, rfl, mi3, e1, e2, e3, e4, e5⟩
          dsimp -zeta only
          obtain ⟨n, rfl⟩ : ∃ k, nb3 = k + 1 := ⟨nb3 - 1, by lia⟩
          extract_lets +onlyGivenNames -underBinder s1 n1 s2 b1 s3 o1 s4 mgv s5 acv bcv jp
          refine wpS_tail1 (J := jp ()) ?_ fun tail => ?_
          rotate_left
          · clear_value jp
            split
            · exact tail _
            · exact tail _
          intro mg4
          dsimp -zeta only [jp, s1, n1, s2, b1, s3, o1, s4, mgv, s5, acv, bcv]
          simp -zeta only [Nat.add_sub_cancel]
          refine wpS_bind (m := _) (wpS_modify ?_)
          obtain ⟨yb, eb, tb, db, mb⟩ := get_prev (xs := b) (n := n) (by lia)
          refine wpS_bind (m := _) (wpS_elem eb ?_)
          refine wpS_bind (m := _) (gallop_pre H (by exact hs3.kind.trans hk) (hB _ mb) hA sa (by lia) e2 fun T hT hT1 _ hT2 => ?_)
          dsimp -zeta only
          have mi4 := mi3.appA' sa T hT e2 fun z hz y hy => by
            obtain ⟨i, hi, ez⟩ := drop_get hz
            by_cases hin : i < na3
            · have := hT2 i z ez hi hin
              unfold past at this
              simp only [Bool.false_eq_true, if_false, Bool.not_eq_false', decide_eq_true_eq] at this
              exact rlt_asymm (rlt_of_le_lt (last_ge sb tb y hy) this)
            · exact mi3.geB z (mi3.memA ez (by lia)) y hy
          have hrest : ∀ z ∈ a.toList.take T, ¬ key yb < key z := fun z hz => by
            have := hT1 z hz
            unfold past at this
            simpa using this
          extract_lets +onlyGivenNames -underBinder kv ac2 jp2
          refine wpS_tail2 (J := fun o n => jp2 () n o) (C := fun out4 na4 => MH key a b out4 na4 (n + 1) ∧ (∀ z ∈ a.toList.take na4, ¬ key yb < key z) ∧ 1 ≤ na4 ∧ na4 ≤ a.size ∧ x3 + na4 + (n + 1) ≤ na' + nb') ?_ fun tail => ?_
          rotate_left
          · clear_value jp2
            by_cases hT0 : na3 - T > 0
            · rw [if_pos (show kv > 0 from hT0)]
              dsimp only
              by_cases h12 : T = 0
              · rw [if_pos (by simpa using h12)]
                exact wpS_pure ⟨⟨hs3.kind, hs3.arr, hs3.pend, hs3.failed⟩, .inl ⟨_, rfl, mi4.doneG sa sb (.inl (by rw [h12]; rfl))⟩⟩
              rw [if_neg (by simpa using h12)]
              exact tail _ _ ⟨mi4, hrest, by lia, by lia, by lia⟩
            · rw [if_neg (show ¬ kv > 0 from hT0)]
              have hT00 : T = na3 := by lia
              exact tail out3 na3 ⟨mi3, by have := hrest; rw [hT00] at this; exact this, e1, e2, e5⟩
          clear mi4 hrest
          rintro out4 na4 ⟨mi4, hrest, h14, h15, h16⟩
          dsimp -zeta only [jp2, ac2, kv]
          extract_lets +onlyGivenNames -underBinder nbv
          dsimp -zeta only [nbv]
          refine wpS_bind (m := _) (wpS_elem eb ?_)
          extract_lets +onlyGivenNames -underBinder ov
          dsimp -zeta only [ov]
          have mi5 := mi4.pushB (by lia) eb sb hrest
          by_cases h17 : n = 1
          · rw [if_pos (by simpa using h17)]
            exact wpS_pure ⟨⟨hs3.kind, hs3.arr, hs3.pend, hs3.failed⟩, .inl ⟨_, rfl, mi5.firstG sa sb (hfirst h17)⟩⟩
          rw [if_neg (by simpa using h17)]
          obtain ⟨p, rfl⟩ : ∃ k, na4 = k + 1 := ⟨na4 - 1, by lia⟩
          simp -zeta only [Nat.add_sub_cancel]
          obtain ⟨ya, ea, ta, da, ma⟩ := get_prev (xs := a) (n := p) (by lia)
          refine wpS_bind (m := _) (wpS_elem ea ?_)
          refine wpS_bind (m := _) (gallop_pre H (n := n) (by exact hs3.kind.trans hk) (hA _ ma) hB sb (by lia) (by lia) fun U hU hU1 _ hU2 => ?_)
          dsimp -zeta only
          have mi6 := mi5.appB sb U hU (by lia) fun z hz y hy => by
            obtain ⟨i, hi, ez⟩ := drop_get hz
            by_cases hin : i < n
            · have := hU2 i z ez hi hin
              unfold past at this
              simp only [if_true, decide_eq_false_iff_not] at this
              exact rle_trans (last_ge sa ta y hy) this
            · exact mi5.geA z (mi5.symm.memA ez (by lia)) y hy
          have hrest2 : ∀ z ∈ b.toList.take U, ¬ key ya < key z := fun z hz => by
            have := hU1 z hz
            unfold past at this
            simp only [if_true, decide_eq_true_eq] at this
            exact rlt_asymm this
          extract_lets +onlyGivenNames -underBinder kv2 bc2 jp3
          refine wpS_tail2 (J := fun o n => jp3 () n o) (C := fun out5 nb5 => MH key a b out5 (p + 1) nb5 ∧ (∀ z ∈ b.toList.take nb5, ¬ key ya < key z) ∧ 2 ≤ nb5 ∧ nb5 ≤ n) ?_ fun tail => ?_
          rotate_left
          · clear_value jp3
            by_cases hU0 : n - U > 0
            · rw [if_pos (show kv2 > 0 from hU0)]
              dsimp only
              by_cases h18 : U = 1
              · rw [if_pos (by simpa using h18)]
                exact wpS_pure ⟨⟨hs3.kind, hs3.arr, hs3.pend, hs3.failed⟩, .inl ⟨_, rfl, mi6.firstG sa sb (hfirst h18)⟩⟩
              rw [if_neg (by simpa using h18)]
              by_cases h19 : U = 0
              · rw [if_pos (by simpa using h19)]
                exact wpS_pure ⟨⟨hs3.kind, hs3.arr, hs3.pend, hs3.failed⟩, .inl ⟨_, rfl, mi6.doneG sa sb (.inr (by rw [h19]; rfl))⟩⟩
              rw [if_neg (by simpa using h19)]
              exact tail _ _ ⟨mi6, hrest2, by lia, hU⟩
            · rw [if_neg (show ¬ kv2 > 0 from hU0)]
              have hU00 : U = n := by lia
              exact tail (out4.push yb) n ⟨mi5, by have := hrest2; rw [hU00] at this; exact this, by lia, Nat.le_refl _⟩
          clear mi6 hrest2
          rintro out5 nb5 ⟨mi6, hrest2, h20, h21⟩
          dsimp -zeta only [jp3, bc2, kv2]
          dsimp only
          refine wpS_bind (m := _) (wpS_elem ea ?_)
          have mi7 := mi6.pushA (by lia) ea sa hrest2
          by_cases h22 : p = 0
          · rw [if_pos (by simpa using h22)]
            exact wpS_pure ⟨⟨hs3.kind, hs3.arr, hs3.pend, hs3.failed⟩, .inl ⟨_, rfl, mi7.doneG sa sb (.inl (by rw [h22]; rfl))⟩⟩
          rw [if_neg (by simpa using h22)]
          split
          · exact wpS_pure ⟨⟨hs3.kind, hs3.arr, hs3.pend, hs3.failed⟩, .inr ⟨_, _, _, _, _, _, rfl, mi7, by lia, by lia, h20, by lia, by lia⟩⟩
          · exact wpS_pure ⟨⟨hs3.kind, hs3.arr, hs3.pend, hs3.failed⟩, _, _, _, _, _, _, rfl, mi7, by lia, by lia, h20, by lia, by lia⟩
end
end Mine35
end

-- part SortH35
section
set_option maxRecDepth 100000
set_option maxHeartbeats 4000000
set_option linter.unusedVariables false
namespace Mine35
open PySem PySem.W PySem.Calls PyProof.Rows

section
variable {key : Keyed → Row}
theorem threshL (left : Bool) (k : Keyed) : ∀ (l : List Keyed), SL key l → ∃ T, T ≤ l.length ∧ ∀ j x, l[j]? = some x → past key left k x = decide (j < T)
  | [], _ => ⟨0, Nat.le_refl _, fun j x e => by simp at e⟩
  | y :: l, hs => by
    have h := thresh (xs := (y :: l).toArray) (i := 0) left k (key := key) hs
    obtain ⟨T, hT, hx⟩ := h
    refine ⟨T, by simpa using hT, fun j x e => ?_⟩
    have hj : j < (y :: l).length := (List.getElem?_eq_some_iff.mp e).1
    obtain ⟨x', e', _, p⟩ := hx j (by simpa using hj)
    have e'' : (y :: l)[j]? = some x' := by
      have e2 := e'
      rw [Nat.zero_add, ← Array.getElem?_toList] at e2
      exact e2
    rw [e''] at e; cases e; exact p

theorem put_list (xs : Array Keyed) : ∀ (l : List Keyed) (sa j : Nat), sa + j + l.length ≤ xs.size → ∀ (ys : Array Keyed), ys.size = xs.size →
    ((l.zipIdx j).foldl (fun a (q : Keyed × Nat) => a.setIfInBounds (sa + q.2) q.1) ys).toList = ys.toList.take (sa + j) ++ l ++ ys.toList.drop (sa + j + l.length)
  | [], sa, j, _, ys, _ => by simp
  | p :: l, sa, j, h, ys, hy => by
    rw [List.zipIdx_cons, List.foldl_cons]
    have h' : sa + (j + 1) + l.length ≤ xs.size := by simp at h; lia
    have hlt : sa + j < ys.size := by simp at h; lia
    rw [put_list xs l sa (j + 1) h' _ (by simpa using hy)]
    have e : (ys.setIfInBounds (sa + j) p).toList = ys.toList.take (sa + j) ++ p :: ys.toList.drop (sa + j + 1) := by
      rw [Array.toList_setIfInBounds, List.set_eq_take_append_cons_drop, if_pos (by simpa using hlt)]
    rw [e]
    have hl : (ys.toList.take (sa + j)).length = sa + j := by rw [List.length_take]; simp; lia
    rw [List.take_append, List.drop_append, hl, List.take_of_length_le (by lia), show sa + (j + 1) - (sa + j) = 1 by lia, List.drop_of_length_le (l := List.take (sa + j) ys.toList) (by lia), show sa + (j + 1) + l.length - (sa + j) = l.length + 1 by lia]
    simp only [List.take_succ_cons, List.take_zero, List.drop_succ_cons, List.nil_append, List.drop_drop, List.length_cons]
    rw [List.append_assoc, List.append_assoc, show sa + j + 1 + l.length = sa + j + (l.length + 1) by lia]
    simp
end

section
variable {prog : Program} {w : World} {A : Around} {E : Value → Shared → Prop} {s : Shared} {key : Keyed → Row} {a₀ : Array Keyed} {pd : Array (Nat × Nat × Nat)} {st : SortSt}

theorem wpS_set {σ : Type} {M : Model} {Q : PUnit → σ → Prop} {st s' : σ} (h : Q ⟨⟩ s') : wpS M A E s (set s' : StateT σ Sem PUnit) Q st := by
  unfold wpS; exact wpAny_pure ⟨rfl, h⟩

theorem mergeAt_spec (H : Ans prog w A s key a₀) {n1 n2 pw q : Nat} {Q : Bool → SortSt → Prop} (hB : SB a₀ #[(0, n1, pw), (n1, n2, q)] st) (h1 : 1 ≤ n1) (h2 : 1 ≤ n2) (hn : n1 + n2 = a₀.size)
    (sA : SL key ((arrOf st).toList.take n1)) (sB : SL key ((arrOf st).toList.drop n1))
    (h : ∀ st', SB a₀ #[(0, n1 + n2, pw)] st' → SL key (arrOf st').toList → Q true st') : wpS (model prog w) A E s (mergeAt' 0) Q st := by
  obtain ⟨kd, arr, pend, mg, fl⟩ := st
  have hp : pend = #[(0, n1, pw), (n1, n2, q)] := hB.pend
  have hk : kd = oneType' := hB.kind
  have hf : fl = none := hB.failed
  have hpm : arr.Perm a₀ := hB.perm
  subst hp hk hf
  have sA' : SL key (arr.toList.take n1) := sA
  have sB' : SL key (arr.toList.drop n1) := sB
  clear sA sB hB
  have hsz : arr.size = n1 + n2 := by rw [hpm.size_eq]; lia
  have hmem : ∀ x ∈ arr.toList, x ∈ a₀.toList := fun x hx => (Array.perm_iff_toList_perm.mp hpm).mem_iff.mp hx
  refine wpS_bind (m := _) (wpS_get ?_)
  dsimp only
  have epd : (#[(0, n1, pw), (n1, n2, q)].setIfInBounds 0 (0, n1 + n2, pw)).eraseIdxIfInBounds (0 + 1) = #[(0, n1 + n2, pw)] := by
    simp [Array.setIfInBounds, Array.eraseIdxIfInBounds, Array.set]
  refine wpS_bind (m := _) (wpS_set ?_)
  rw [epd]
  -- the two gallops
  have hAB : arr.toList.take n1 ++ arr.toList.drop n1 = arr.toList := List.take_append_drop _ _
  have hlA : (arr.toList.take n1).length = n1 := by rw [List.length_take]; simp; lia
  have hlB : (arr.toList.drop n1).length = n2 := by rw [List.length_drop]; simp; lia
  generalize hAe : arr.toList.take n1 = LA at hAB hlA sA'
  generalize hBe : arr.toList.drop n1 = LB at hAB hlB sB'
  have hgA : ∀ i, i < n1 → arr[i]? = LA[i]? := fun i hi => by rw [← Array.getElem?_toList, ← hAB, List.getElem?_append_left (by lia)]
  have hgB : ∀ i, arr[n1 + i]? = LB[i]? := fun i => by rw [← Array.getElem?_toList, ← hAB, List.getElem?_append_right (by lia), show n1 + i - LA.length = i by lia]
  obtain ⟨b0, eb0⟩ : ∃ b0, LB[0]? = some b0 := ⟨_, List.getElem?_eq_getElem (by lia)⟩
  obtain ⟨al, eal⟩ : ∃ al, LA[n1 - 1]? = some al := ⟨_, List.getElem?_eq_getElem (by lia)⟩
  have mb0 : b0 ∈ a₀.toList := hmem _ (by rw [← hAB]; exact List.mem_append_right _ (List.mem_of_getElem? eb0))
  have mal : al ∈ a₀.toList := hmem _ (by rw [← hAB]; exact List.mem_append_left _ (List.mem_of_getElem? eal))
  obtain ⟨T, hT, hT1⟩ := threshL false b0 LA sA'
  obtain ⟨U, hU, hU1⟩ := threshL true al LB sB'
  refine wpS_bind (m := _) (wpS_elem (x := b0) (by rw [← eb0, ← hgB]; rfl) ?_)
  refine wpS_bind (m := _) (gallop_spec H (T := T) rfl mb0 (fun i hi => ?_) (by lia) (by lia) ?_)
  · obtain ⟨x, ex⟩ : ∃ x, LA[i]? = some x := ⟨_, List.getElem?_eq_getElem (by lia)⟩
    exact ⟨x, by rw [Nat.zero_add, hgA i hi]; exact ex, hmem _ (by rw [← hAB]; exact List.mem_append_left _ (List.mem_of_getElem? ex)), hT1 i x ex⟩
  -- what the gallops say
  have hpre : ∀ x ∈ LA.take T, ∀ y ∈ LB, ¬ key y < key x := fun x hx y hy => by
    obtain ⟨j, hj, rfl⟩ := List.mem_iff_getElem.mp hx
    rw [List.getElem_take]
    have hjT : j < T := by simp at hj; lia
    have := hT1 j _ (List.getElem?_eq_getElem (by lia))
    unfold past at this
    simp only [Bool.false_eq_true, if_false] at this
    have h3 : ¬ key b0 < key (LA[j]'(by lia)) := by
      intro hlt; simp [hlt] at this; lia
    have h4 : ¬ key y < key b0 := by
      cases LB with
      | nil => cases hy
      | cons z l =>
        cases eb0
        rcases List.mem_cons.mp hy with rfl | hy
        · exact rlt_irrefl _
        · exact (List.pairwise_cons.mp sB').1 y hy
    exact rle_trans h3 h4
  have hmid : ∀ x ∈ LA.drop T, key b0 < key x := fun x hx => by
    obtain ⟨j, hj, rfl⟩ := List.mem_iff_getElem.mp hx
    rw [List.getElem_drop]
    have hjl : T + j < LA.length := by simp at hj; lia
    have := hT1 (T + j) _ (List.getElem?_eq_getElem hjl)
    rw [decide_eq_false (show ¬ T + j < T by lia)] at this
    unfold past at this
    simp only [Bool.false_eq_true, if_false, Bool.not_eq_false', decide_eq_true_eq] at this
    exact this
  have hale : ∀ x ∈ LA, ¬ key al < key x := fun x hx => by
    have e : LA = LA.take (n1 - 1) ++ [al] := by
      have h5 := List.take_append_drop (n1 - 1) LA
      have h6 : LA.drop (n1 - 1) = [al] := by
        rw [List.drop_eq_getElem_cons (by lia), List.drop_of_length_le (by lia)]
        rw [List.getElem?_eq_getElem (by lia)] at eal
        injection eal with e9; rw [e9]
      rw [h6] at h5; exact h5.symm
    rw [e] at hx sA'
    rcases List.mem_append.mp hx with hx | hx
    · exact (List.pairwise_append.mp sA').2.2 x hx al (List.mem_singleton.mpr rfl)
    · rw [List.mem_singleton.mp hx]; exact rlt_irrefl _
  have hlow : ∀ y ∈ LB.take U, key y < key al := fun y hy => by
    obtain ⟨j, hj, rfl⟩ := List.mem_iff_getElem.mp hy
    rw [List.getElem_take]
    have hjU : j < U := by simp at hj; lia
    have := hU1 j _ (List.getElem?_eq_getElem (by lia))
    unfold past at this
    simpa [hjU] using this
  have hhigh : ∀ y ∈ LB.drop U, ¬ key y < key al := fun y hy => by
    obtain ⟨j, hj, rfl⟩ := List.mem_iff_getElem.mp hy
    rw [List.getElem_drop]
    have hjl : U + j < LB.length := by simp at hj; lia
    have := hU1 (U + j) _ (List.getElem?_eq_getElem hjl)
    rw [decide_eq_false (show ¬ U + j < U by lia)] at this
    unfold past at this
    simp only [if_true, decide_eq_false_iff_not] at this
    exact this
  dsimp only
  have hB1 : SB a₀ #[(0, n1 + n2, pw)] (SortSt.mk' oneType' arr #[(0, n1 + n2, pw)] mg none) := ⟨hpm, rfl, rfl, rfl⟩
  by_cases c1 : n1 - T = 0
  · rw [if_pos (by simpa using c1)]
    refine wpS_pure (h _ hB1 ?_)
    show SL key arr.toList
    rw [← hAB]
    exact List.pairwise_append.mpr ⟨sA', sB', fun x hx y hy => hpre x (by rw [List.take_of_length_le (by lia)]; exact hx) y hy⟩
  rw [if_neg (by simpa using c1)]
  refine wpS_bind (m := _) (wpS_elem (x := al) (by rw [← eal, ← hgA _ (by lia), show 0 + T + (n1 - T) - 1 = n1 - 1 by lia]) ?_)
  refine wpS_bind (m := _) (gallop_spec H (T := U) rfl mal (fun i hi => ?_) (by lia) (by lia) ?_)
  · obtain ⟨x, ex⟩ : ∃ x, LB[i]? = some x := ⟨_, List.getElem?_eq_getElem (by lia)⟩
    exact ⟨x, by rw [hgB i]; exact ex, hmem _ (by rw [← hAB]; exact List.mem_append_right _ (List.mem_of_getElem? ex)), hU1 i x ex⟩
  dsimp only
  by_cases c2 : U = 0
  · rw [if_pos (by simpa using c2)]
    refine wpS_pure (h _ hB1 ?_)
    show SL key arr.toList
    rw [← hAB]
    exact List.pairwise_append.mpr ⟨sA', sB', fun x hx y hy => rle_trans (hale x hx) (hhigh y (by rw [c2]; exact hy))⟩
  rw [if_neg (by simpa using c2)]
  have ex : (arr.extract (0 + T) n1).toList = LA.drop T := by
    rw [ext_list, Nat.zero_add, ← hAB, List.drop_append, List.take_append, List.take_of_length_le (by simp; lia), show n1 - T - (LA.drop T).length = 0 by simp; lia]; simp
  have ey : (arr.extract n1 (n1 + U)).toList = LB.take U := by
    rw [ext_list, hBe, show n1 + U - n1 = U by lia]
  have szx : (arr.extract (0 + T) n1).size = n1 - T := by rw [← Array.length_toList, ex]; simp; lia
  have szy : (arr.extract n1 (n1 + U)).size = U := by rw [← Array.length_toList, ey]; simp; lia
  have finM : ∀ (out : Array Keyed) (mg' : Nat), Res key (arr.extract (0 + T) n1) (arr.extract n1 (n1 + U)) out →
      SB a₀ #[(0, n1 + n2, pw)] (SortSt.mk' oneType' (out.toList.zipIdx.foldl (fun a (q : Keyed × Nat) => a.setIfInBounds (0 + T + q.2) q.1) arr) #[(0, n1 + n2, pw)] mg' none) ∧
      SL key (out.toList.zipIdx.foldl (fun a (q : Keyed × Nat) => a.setIfInBounds (0 + T + q.2) q.1) arr).toList := by
    intro out mg' hr
    have hpo := hr.perm
    rw [ex, ey] at hpo
    have hlo : out.toList.length = n1 - T + U := by rw [hpo.length_eq]; simp; lia
    have e1 := put_list arr out.toList (0 + T) 0 (by lia) arr rfl
    have e2 : arr.toList.take (0 + T + 0) = LA.take T := by rw [← hAB, List.take_append, show 0 + T + 0 - LA.length = 0 by lia]; simp
    have e3 : arr.toList.drop (0 + T + 0 + out.toList.length) = LB.drop U := by
      rw [← hAB, List.drop_append, List.drop_of_length_le (by lia), hlo, show 0 + T + 0 + (n1 - T + U) - LA.length = U by lia]; simp
    rw [e2, e3] at e1
    have hmo : ∀ x, x ∈ out.toList → x ∈ LA.drop T ∨ x ∈ LB.take U := fun x hx => List.mem_append.mp (hpo.mem_iff.mp hx)
    refine ⟨⟨?_, rfl, rfl, rfl⟩, ?_⟩
    · refine Array.Perm.trans (Array.perm_iff_toList_perm.mpr ?_) hpm
      show (List.foldl _ arr _).toList.Perm arr.toList
      rw [e1, ← hAB, List.append_assoc]
      refine ((hpo.append_right _).append_left _).trans ?_
      rw [List.append_assoc, ← List.append_assoc, List.take_append_drop, List.take_append_drop]
    · rw [e1, List.append_assoc]
      refine List.pairwise_append.mpr ⟨List.Pairwise.sublist (List.take_sublist T _) sA', List.pairwise_append.mpr ⟨hr.sort, List.Pairwise.sublist (List.drop_sublist U _) sB', fun x hx y hy => ?_⟩, fun x hx y hy => ?_⟩
      · rcases hmo x hx with hx | hx
        · exact rle_trans (hale x (List.mem_of_mem_drop hx)) (hhigh y hy)
        · have := sB'
          rw [← List.take_append_drop U LB] at this
          exact (List.pairwise_append.mp this).2.2 x hx y hy
      · rcases List.mem_append.mp hy with hy | hy
        · rcases hmo y hy with hy | hy
          · have := sA'
            rw [← List.take_append_drop T LA] at this
            exact (List.pairwise_append.mp this).2.2 x hx y hy
          · exact hpre x hx y (List.mem_of_mem_take hy)
        · exact hpre x hx y (List.mem_of_mem_drop hy)
  have hx1 : ∀ x ∈ (arr.extract (0 + T) n1).toList, x ∈ a₀.toList := fun x hx => by
    rw [ex] at hx; exact hmem _ (by rw [← hAB]; exact List.mem_append_left _ (List.mem_of_mem_drop hx))
  have hy1 : ∀ x ∈ (arr.extract n1 (n1 + U)).toList, x ∈ a₀.toList := fun x hx => by
    rw [ey] at hx; exact hmem _ (by rw [← hAB]; exact List.mem_append_right _ (List.mem_of_mem_take hx))
  have sx1 : SL key (arr.extract (0 + T) n1).toList := by rw [ex]; exact List.Pairwise.sublist (List.drop_sublist T _) sA'
  have sy1 : SL key (arr.extract n1 (n1 + U)).toList := by rw [ey]; exact List.Pairwise.sublist (List.take_sublist U _) sB'
  have hf1 : ∀ y, (arr.extract n1 (n1 + U))[0]? = some y → ∀ z ∈ (arr.extract (0 + T) n1).toList, ¬ key z < key y := fun y hy z hz => by
    rw [← Array.getElem?_toList, ey, List.getElem?_take, if_pos (by lia), eb0] at hy
    cases hy
    rw [ex] at hz
    exact rlt_asymm (hmid z hz)
  have hl1 : ∀ y ∈ (arr.extract n1 (n1 + U)).toList, ∀ z ∈ (arr.extract (0 + T) n1).toList.drop ((arr.extract (0 + T) n1).size - 1), ¬ key z < key y := fun y hy z hz => by
    rw [ey] at hy
    rw [ex, szx, List.drop_drop, show T + (n1 - T - 1) = n1 - 1 by lia, List.drop_eq_getElem_cons (by lia), List.drop_of_length_le (by lia)] at hz
    rw [List.mem_singleton.mp hz]
    have : LA[n1 - 1]'(by lia) = al := by
      rw [List.getElem?_eq_getElem (by lia)] at eal; injection eal with e9
    rw [this]
    exact rlt_asymm (hlow y hy)
  by_cases c3 : n1 - T ≤ U
  · rw [if_pos c3]
    refine wpS_bind (m := _) (mergeLo_spec H rfl hx1 hy1 sx1 sy1 (by lia) (by lia) hf1 hl1 fun out st' hs hr => ?_)
    obtain ⟨kd', arr', pend', mg', fl'⟩ := st'
    have a1 : arr' = arr := hs.arr
    have a2 : kd' = oneType' := hs.kind
    have a3 : pend' = #[(0, n1 + n2, pw)] := hs.pend
    have a4 : fl' = none := hs.failed
    subst a1 a2 a3 a4
    obtain ⟨f1, f2⟩ := finM out mg' hr
    exact wpS_bind (m := _) (wpS_modify (wpS_bind (m := _) (wpS_get (wpS_pure (h _ f1 f2)))))
  · rw [if_neg c3]
    refine wpS_bind (m := _) (mergeHi_spec H rfl hx1 hy1 sx1 sy1 (by lia) (by lia) hf1 hl1 fun out st' hs hr => ?_)
    obtain ⟨kd', arr', pend', mg', fl'⟩ := st'
    have a1 : arr' = arr := hs.arr
    have a2 : kd' = oneType' := hs.kind
    have a3 : pend' = #[(0, n1 + n2, pw)] := hs.pend
    have a4 : fl' = none := hs.failed
    subst a1 a2 a3 a4
    obtain ⟨f1, f2⟩ := finM out mg' hr
    exact wpS_bind (m := _) (wpS_modify (wpS_bind (m := _) (wpS_get (wpS_pure (h _ f1 f2)))))
end
end Mine35
end

-- part SortI35
section
set_option maxRecDepth 100000
set_option maxHeartbeats 4000000
set_option linter.unusedVariables false
namespace Mine35
open PySem PySem.W PySem.Calls PyProof.Rows

section
variable {prog : Program} {w : World} {A : Around} {E : Value → Shared → Prop} {s : Shared} {key : Keyed → Row} {a₀ : Array Keyed} {pd : Array (Nat × Nat × Nat)} {st : SortSt}

theorem minrun_ok {n : Nat} (h : n ≤ 127) (h2 : 2 ≤ n) : ∃ M, minRun' n n 0 = M ∧ 1 ≤ M ∧ M ≤ n ∧ n ≤ 2 * M := by
  obtain ⟨f, rfl⟩ : ∃ f, n = f + 2 := ⟨n - 2, by lia⟩
  rw [minRun'_succ]
  by_cases h3 : f + 2 < 64
  · rw [if_pos h3]; exact ⟨_, rfl, by lia, by lia, by lia⟩
  · rw [if_neg h3, minRun'_succ, if_pos (by lia)]
    exact ⟨_, rfl, by lia, by lia, by lia⟩

theorem SL_of_sorted {xs : Array Keyed} {l r : Nat} (h : SortedOn key xs l r) (hr : r ≤ xs.size) : SL key ((xs.toList.drop l).take (r - l)) := by
  refine List.pairwise_iff_getElem.mpr fun i j hi hj hij => ?_
  simp only [List.length_take, List.length_drop, Array.length_toList] at hi hj
  rw [List.getElem_take, List.getElem_take, List.getElem_drop, List.getElem_drop]
  have := h (l + i) (l + j) (by lia) (by lia) (by lia)
  have e : ∀ k (hk : k < xs.size), kk key xs k = key (xs.toList[k]'(by simpa using hk)) := fun k hk => by
    unfold kk; rw [← Array.getElem?_toList, List.getElem?_eq_getElem (by simpa using hk)]; rfl
  rwa [e _ (by lia), e _ (by lia)] at this

def RunInv (key : Keyed → Row) (a₀ : Array Keyed) (M lo : Nat) (st : SortSt) : Prop :=
  (lo = 0 ∧ SB a₀ #[] st) ∨ (1 ≤ lo ∧ lo ≤ a₀.size ∧ M ≤ lo ∧ SB a₀ #[(0, lo, 0)] st ∧ SortedOn key (arrOf st) 0 lo) ∨
  (∃ n1 n2 pw, lo = a₀.size ∧ n1 + n2 = a₀.size ∧ 1 ≤ n1 ∧ 1 ≤ n2 ∧ SB a₀ #[(0, n1, pw), (n1, n2, 0)] st ∧ SortedOn key (arrOf st) 0 n1 ∧ SortedOn key (arrOf st) n1 a₀.size)

theorem SB.pending (h : SB a₀ pd st) (p : Array (Nat × Nat × Nat)) : SB a₀ p (setPending st p) := ⟨h.perm, h.kind, h.failed, rfl⟩

theorem sortRuns_spec (H : Ans prog w A s key a₀) {Q : Unit → SortSt → Prop} (hB : SB a₀ #[] st) (h2 : 2 ≤ a₀.size) (h127 : a₀.size ≤ 127)
    (h : ∀ st', (arrOf st').Perm a₀ → failedOf st' = none → SL key (arrOf st').toList → Q () st') : wpS (model prog w) A E s sortRuns' Q st := by
  rw [sortRuns'_eq]
  refine wpS_bind (wpS_get ?_)
  dsimp only
  obtain ⟨M, hM, hM1, hM2, hM3⟩ := minrun_ok h127 h2
  simp only [hB.size, hM]
  refine wpS_bind (wpS_mono (wpS_forRange (I := fun x c st' => ∃ lo, c = (none, lo) ∧ x ≤ lo ∧ RunInv key a₀ M lo st')
    (Q := fun c st' => c = (none, a₀.size) ∧ RunInv key a₀ M a₀.size st') ?step ?fin ⟨0, rfl, Nat.le_refl _, .inl ⟨rfl, hB⟩⟩) ?post)
  case fin =>
    rintro c st' ⟨lo, rfl, hx, hI⟩
    have : lo = a₀.size := by
      rcases hI with ⟨h1, _⟩ | ⟨_, h1, _⟩ | ⟨_, _, _, h1, _⟩ <;> lia
    subst this; exact ⟨rfl, hI⟩
  case step =>
    rintro x c st' _ hx ⟨lo, rfl, hxl, hI⟩
    dsimp only
    by_cases hge : lo ≥ a₀.size
    · rw [if_pos hge]
      have : lo = a₀.size := by
        rcases hI with ⟨h1, _⟩ | ⟨_, h1, _⟩ | ⟨_, _, _, h1, _⟩ <;> lia
      subst this; exact wpS_pure ⟨rfl, hI⟩
    rw [if_neg hge]
    rcases hI with ⟨rfl, hB'⟩ | ⟨hl1, hl2, hl3, hB', hs'⟩ | ⟨_, _, _, h1, _⟩
    · -- the first run
      refine wpS_bind (countRun_spec H (by lia) (by lia) hB' fun m st2 hB2 hm1 hm2 hs2 _ => ?_)
      dsimp only
      by_cases hlt : m < M
      case' pos =>
        rw [if_pos hlt]
        refine wpS_bind (wpS_lift (wpAny_rule ⟨rfl, ?_⟩))
        refine wpS_bind (binarySort_spec H (by lia) (by lia) hB2 (by simpa using hs2) fun st3 hB3 hs3 _ => ?_)
        simp only [Bool.not_true, Bool.false_eq_true, if_false]
        have hn1 : 1 ≤ min (a₀.size - 0) M := by lia
        have hn2 : min (a₀.size - 0) M ≤ a₀.size := by lia
        have hn3 : M ≤ min (a₀.size - 0) M := by lia
        generalize min (a₀.size - 0) M = n at hs3 hn1 hn2 hn3 ⊢
      case' neg =>
        rw [if_neg hlt]
        have hX : ∃ st3, st3 = st2 ∧ SB a₀ #[] st3 ∧ SortedOn key (arrOf st3) 0 (0 + m) := ⟨st2, rfl, hB2, hs2⟩
        obtain ⟨st3, est3, hB3, hs3⟩ := hX
        rw [← est3]
        have hn1 : 1 ≤ m := hm1
        have hn2 : m ≤ a₀.size := by lia
        have hn3 : M ≤ m := by lia
        generalize m = n at hs3 hn1 hn2 hn3 ⊢
      all_goals
        refine wpS_bind (wpS_get ?_)
        have hb : (pendingOf st3).back? = none := by rw [hB3.pend]; rfl
        rw [hb]
        dsimp only
        refine wpS_bind (wpS_modify (wpS_pure ⟨0 + n, rfl, by lia, .inr (.inl ⟨by lia, by lia, by lia, ?_, hs3⟩)⟩))
        have e : (pendingOf st3).push (0, n, 0) = #[(0, 0 + n, 0)] := by rw [hB3.pend, Nat.zero_add]; rfl
        rw [e]; exact hB3.pending _
    · -- the second run
      refine wpS_bind (countRun_spec H (by lia) (by lia) hB' fun m st2 hB2 hm1 hm2 hs2 hu2 => ?_)
      dsimp only
      have hs2' : SortedOn key (arrOf st2) 0 lo := fun i j a b c => by rw [hu2 i (by lia), hu2 j (by lia)]; exact hs' i j a b c
      by_cases hlt : m < M
      case' pos =>
        rw [if_pos hlt]
        refine wpS_bind (wpS_lift (wpAny_rule ⟨rfl, ?_⟩))
        refine wpS_bind (binarySort_spec H (by lia) (by lia) hB2 hs2 fun st3 hB3 hs3 hu3 => ?_)
        simp only [Bool.not_true, Bool.false_eq_true, if_false]
        have hs3' : SortedOn key (arrOf st3) 0 lo := fun i j a b c => by rw [hu3 i (by lia), hu3 j (by lia)]; exact hs2' i j a b c
        have hn1 : lo + min (a₀.size - lo) M = a₀.size := by lia
        generalize min (a₀.size - lo) M = n at hs3 hn1 ⊢
      case' neg =>
        rw [if_neg hlt]
        have hX : ∃ st3, st3 = st2 ∧ SB a₀ #[(0, lo, 0)] st3 ∧ SortedOn key (arrOf st3) lo (lo + m) ∧ SortedOn key (arrOf st3) 0 lo := ⟨st2, rfl, hB2, hs2, hs2'⟩
        obtain ⟨st3, est3, hB3, hs3, hs3'⟩ := hX
        rw [← est3]
        have hn1 : lo + m = a₀.size := by lia
        generalize m = n at hs3 hn1 ⊢
      all_goals
        refine wpS_bind (wpS_get ?_)
        have hb : (pendingOf st3).back? = some (0, lo, 0) := by rw [hB3.pend]; rfl
        rw [hb]
        dsimp only
        refine wpS_bind (wpS_mono (wpS_forRange (I := fun _ c st4 => st4 = st3 ∧ c = (none, ())) (Q := fun c st4 => st4 = st3 ∧ c = (none, ())) ?_ (fun _ _ hh => hh) ⟨rfl, rfl⟩) ?_)
        · rintro x' c st4 _ _ ⟨rfl, rfl⟩
          refine wpS_bind (wpS_get ?_)
          have e : (if (pendingOf st4).size > 1 then (pendingOf st4)[(pendingOf st4).size - 2]? else none) = none := by
            rw [hB3.pend]; rfl
          rw [e]
          exact wpS_pure ⟨rfl, rfl⟩
        · rintro c st4 ⟨rfl, rfl⟩
          dsimp only
          refine wpS_bind (wpS_modify (wpS_bind (wpS_modify (wpS_pure ⟨lo + n, rfl, by lia, .inr (.inr ⟨lo, n, power' a₀.size (2 * 0 + lo) (2 * 0 + lo + lo + n) a₀.size, hn1, hn1, hl1, by lia, ?_, hs3', ?_⟩)⟩))))
          · have e : ((pendingOf st4).modify ((pendingOf st4).size - 1) fun x => (x.1, x.2.1, power' a₀.size (2 * 0 + lo) (2 * 0 + lo + lo + n) a₀.size)).push (lo, n, 0) = #[(0, lo, power' a₀.size (2 * 0 + lo) (2 * 0 + lo + lo + n) a₀.size), (lo, n, 0)] := by
              rw [hB3.pend]; rfl
            show SB a₀ _ (setPending (setPending st4 _) _)
            have e' : setPending (setPending st4 ((pendingOf st4).modify ((pendingOf st4).size - 1) fun x => (x.1, x.2.1, power' a₀.size (2 * 0 + lo) (2 * 0 + lo + lo + n) a₀.size))) (((pendingOf st4).modify ((pendingOf st4).size - 1) fun x => (x.1, x.2.1, power' a₀.size (2 * 0 + lo) (2 * 0 + lo + lo + n) a₀.size)).push (lo, n, 0)) = setPending st4 #[(0, lo, power' a₀.size (2 * 0 + lo) (2 * 0 + lo + lo + n) a₀.size), (lo, n, 0)] := by rw [e]
            exact ⟨hB3.perm, hB3.kind, hB3.failed, e⟩
          · rw [← hn1]; exact hs3
    · lia
  case post =>
    rintro c st' ⟨rfl, hI⟩
    dsimp only
    have hD : (∃ pw, SB a₀ #[(0, a₀.size, pw)] st' ∧ SL key (arrOf st').toList) ∨ ∃ n1 n2 pw, n1 + n2 = a₀.size ∧ 1 ≤ n1 ∧ 1 ≤ n2 ∧ SB a₀ #[(0, n1, pw), (n1, n2, 0)] st' ∧ SortedOn key (arrOf st') 0 n1 ∧ SortedOn key (arrOf st') n1 a₀.size := by
      rcases hI with ⟨h1, _⟩ | ⟨_, _, _, hB1, hs1⟩ | ⟨n1, n2, pw, _, h3, h4, h5, hB1, hs1, hs2⟩
      · lia
      · refine .inl ⟨0, hB1, ?_⟩
        have := SL_of_sorted hs1 (by rw [hB1.size]; exact Nat.le_refl _)
        rwa [List.drop_zero, Nat.sub_zero, List.take_of_length_le (by rw [Array.length_toList, hB1.size]; exact Nat.le_refl _)] at this
      · exact .inr ⟨n1, n2, pw, h3, h4, h5, hB1, hs1, hs2⟩
    refine wpS_bind (wpS_mono (wpS_forRange (I := fun x c st2 => c = (none, ()) ∧ ((∃ pw, SB a₀ #[(0, a₀.size, pw)] st2 ∧ SL key (arrOf st2).toList) ∨ (x = 0 ∧ st2 = st')))
      (Q := fun c st2 => c = (none, ()) ∧ ∃ pw, SB a₀ #[(0, a₀.size, pw)] st2 ∧ SL key (arrOf st2).toList) ?_ ?_ ⟨rfl, .inr ⟨rfl, rfl⟩⟩) ?_)
    · rintro x c st2 _ hx ⟨rfl, hh⟩
      have hD2 : (∃ pw, SB a₀ #[(0, a₀.size, pw)] st2 ∧ SL key (arrOf st2).toList) ∨ ∃ n1 n2 pw, n1 + n2 = a₀.size ∧ 1 ≤ n1 ∧ 1 ≤ n2 ∧ SB a₀ #[(0, n1, pw), (n1, n2, 0)] st2 ∧ SortedOn key (arrOf st2) 0 n1 ∧ SortedOn key (arrOf st2) n1 a₀.size := by
        rcases hh with hh | ⟨_, rfl⟩
        · exact .inl hh
        · exact hD
      refine wpS_bind (wpS_get ?_)
      rcases hD2 with ⟨pw, hB2, hs2⟩ | ⟨n1, n2, pw, h3, h4, h5, hB2, hs1, hs2⟩
      · rw [if_pos (by rw [hB2.pend]; exact Nat.le_refl 1)]
        exact wpS_pure ⟨rfl, pw, hB2, hs2⟩
      · rw [if_neg (by rw [hB2.pend]; exact (by decide : ¬ 2 ≤ 1))]
        have e : (if Option.any (fun x => decide (x < (pendingOf st2)[(pendingOf st2).size - 2 + 1]?.elim 0 fun x => x.snd.fst))
            (if (pendingOf st2).size - 2 > 0 then Option.map (fun x => x.snd.fst) (pendingOf st2)[(pendingOf st2).size - 2 - 1]? else none) = true then (pendingOf st2).size - 2 - 1 else (pendingOf st2).size - 2) = 0 := by
          rw [hB2.pend]; rfl
        rw [e]
        have z1 := SL_of_sorted hs1 (by rw [hB2.size]; lia)
        have z2 := SL_of_sorted hs2 (by rw [hB2.size]; exact Nat.le_refl _)
        rw [List.drop_zero, Nat.sub_zero] at z1
        rw [List.take_of_length_le (by rw [List.length_drop, Array.length_toList, hB2.size]; exact Nat.le_refl _)] at z2
        refine wpS_bind (mergeAt_spec H hB2 h4 h5 h3 z1 z2 fun st3 hB3 hs3 => ?_)
        rw [if_neg (by decide)]
        exact wpS_pure ⟨rfl, .inl ⟨pw, by rw [← h3]; exact hB3, hs3⟩⟩
    · rintro c st2 ⟨rfl, hh⟩
      rcases hh with hh | ⟨h0, _⟩
      · exact ⟨rfl, hh⟩
      · lia
    · rintro c st2 ⟨rfl, pw, hB2, hs2⟩
      exact wpS_pure (h st2 hB2.perm hB2.failed hs2)
end
end Mine35
end

-- part SortJ35
section
set_option maxRecDepth 100000
set_option maxHeartbeats 4000000
set_option linter.unusedVariables false
namespace Mine35
open PySem PySem.W PySem.Calls PyProof.Rows

section
variable {prog : Program} {w : World} {A : Around} {E : Value → Shared → Prop} {s : Shared} {b : Bool}

theorem list_type {a : Addr} {xs : Array Value} (h : s.heap.IsList a xs) : s.TypeIs (.ref a) "list" := by
  obtain ⟨o, e, c, n, d⟩ := h
  exact ⟨o, e, c⟩

theorem row_lt {u v : Value} {r q : Row} {Q : Bool → Shared → Prop} (hu : A.units < cLine) (ru : RowAt b s.heap u r) (rv : RowAt b s.heap v q) (k : Q (decide (r < q)) s) : wpAny (model prog w) A (oneLt' true u v) Q E s := by
  obtain ⟨x, vs, rfl, lx, px⟩ := ru
  obtain ⟨y, ws, rfl, ly, py⟩ := rv
  rw [oneLt'_eq]
  simp only [if_true]
  refine wpAny_bind (wpAny_cRoomFor hu ?_)
  refine wpAny_bind (wpAny_callSpecialIfBound?_slot (list_type lx) F.slot_list_lt ?_)
  refine wpAny_call (codeAny_call_builtin F.slot_list_lt.plain F.entry_list_lt (F.slot_list_lt.check _ _ _ _ _ _ _ _ (list_type lx) (F.args_list_lt_2 _ _) ?_))
  show wpAny _ _ ((isInstance (.ref y) (.type "list")) >>= fun c => _) _ _ s
  refine wpAny_bind (wpAny_isInstance (list_type ly) F.sub_list_list ?_)
  refine wpAny_pure ⟨Code.quiet_builtin _ (by decide +kernel), ?_⟩
  refine loop_lt lx ly px py vs.length 0 (by lia) (by lia) (by lia) ?_
  exact wpAny_truthy_bool k

theorem Part.uniq {v : Value} {cs ds : List Nat} (h : Part b v cs) (h' : Part b v ds) : cs = ds := by
  cases b with
  | false =>
    obtain ⟨x, t1, rfl, hx⟩ := h.isS
    obtain ⟨y, t2, e, hy⟩ := h'.isS
    cases e; rw [← hx, ← hy]
  | true =>
    obtain ⟨x, t1, rfl, hx⟩ := h.isB
    obtain ⟨y, t2, e, hy⟩ := h'.isB
    cases e; rw [← hx, ← hy]
theorem PartL.uniq : ∀ {vs : List Value} {cs ds : Row}, PartL b vs cs → PartL b vs ds → cs = ds
  | [], [], [], _, _ => rfl
  | _ :: _, _ :: _, _ :: _, h, h' => by rw [h.1.uniq h'.1, PartL.uniq h.2 h'.2]
  | [], _ :: _, _, h, _ => h.elim
  | [], [], _ :: _, _, h => h.elim
  | _ :: _, [], _, h, _ => h.elim
  | _ :: _, _ :: _, [], _, h => h.elim
theorem RowAt.uniq {g : Heap} {v : Value} {r q : Row} (h : RowAt b g v r) (h' : RowAt b g v q) : r = q := by
  obtain ⟨x, vs, rfl, ⟨o, e, c, n, d⟩, px⟩ := h
  obtain ⟨y, ws, e2, ⟨o', e', c', n', d'⟩, py⟩ := h'
  cases e2
  rw [e] at e'; cases e'
  rw [d] at d'; injection d' with d' _
  have : vs = ws := by simpa using d'
  subst this
  exact px.uniq py

open Classical in
/-- the row that lies at a value -/
noncomputable def rowOf (b : Bool) (g : Heap) (v : Value) : Row := if h : ∃ r, RowAt b g v r then Classical.choose h else []
theorem rowOf_eq {g : Heap} {v : Value} {r : Row} (h : RowAt b g v r) : rowOf b g v = r := by
  unfold rowOf
  have hx : ∃ r, RowAt b g v r := ⟨r, h⟩
  rw [dif_pos hx]
  exact (Classical.choose_spec hx).uniq h
theorem All2.map_rowOf {g : Heap} : ∀ {vs : List Value} {rows : List Row}, All2 (RowAt b g) vs rows → vs.map (rowOf b g) = rows
  | [], [], _ => rfl
  | v :: vs, r :: rows, h => by rw [List.map_cons, rowOf_eq h.1, All2.map_rowOf h.2]
  | [], _ :: _, h => h.elim
  | _ :: _, [], h => h.elim
theorem All2.of_mem {g : Heap} : ∀ {vs : List Value}, (∀ v ∈ vs, ∃ r, RowAt b g v r) → All2 (RowAt b g) vs (vs.map (rowOf b g))
  | [], _ => trivial
  | v :: vs, h => ⟨by obtain ⟨r, hr⟩ := h v (.head _); rw [rowOf_eq hr]; exact hr, All2.of_mem fun v hv => h v (.tail _ hv)⟩
theorem All2.mem {α β : Type} {R : α → β → Prop} {vs : List α} {cs : List β} (h : All2 R vs cs) {v : α} (hv : v ∈ vs) : ∃ c, R v c := by
  obtain ⟨i, hi, rfl⟩ := List.mem_iff_getElem.mp hv
  obtain ⟨c, _, r⟩ := h.get (List.getElem?_eq_getElem hi)
  exact ⟨c, r⟩

theorem zip_self : ∀ vs : List Value, vs.zip vs = vs.map fun v => (v, v)
  | [] => rfl
  | v :: vs => by rw [List.zip_cons_cons, zip_self vs]; rfl
theorem pairs_list (vs : List Value) : (pairsOf vs).toList = vs.map fun v => (v, v) := by
  unfold pairsOf; rw [Array.toList_zip]; exact zip_self vs
theorem pair_mem {vs : List Value} {x : Keyed} (h : x ∈ (pairsOf vs).toList) : x.1 = x.2 ∧ x.1 ∈ vs := by
  rw [pairs_list] at h
  obtain ⟨v, hv, rfl⟩ := List.mem_map.mp h
  exact ⟨rfl, hv⟩

/-- the rows answer for the pairs -/
theorem ans_rows {g : Heap} {vs : List Value} {rows : List Row} (hu : A.units < cLine) (k : g.StaysIn s.heap) (hr : All2 (RowAt b g) vs rows) : Ans prog w A s (fun x => rowOf b g x.1) (pairsOf vs) := by
  intro x y hx hy Q E hq
  obtain ⟨r, hr1⟩ := hr.mem (pair_mem hx).2
  obtain ⟨q, hr2⟩ := hr.mem (pair_mem hy).2
  rw [keyLt'_oneType]
  simp only [rowOf_eq hr1, rowOf_eq hr2] at hq
  exact row_lt hu (hr1.mono k) (hr2.mono k) hq

theorem looks_list {h : Heap} {v : Value} {r : Row} (hr : RowAt b h v r) : Looks (model prog w) h (typeOf v) (.type "list") := by
  intro A Q E s k hq
  obtain ⟨x, vs, rfl, lx, px⟩ := hr
  exact wpAny_typeOf (list_type (isList_mono k lx)) hq

/-- what a sort of rows leaves -/
structure SortedAs (b : Bool) (g : Heap) (rows : List Row) (ys : List Value) : Prop where
  rws : All2 (RowAt b g) ys (ys.map (rowOf b g))
  perm : (ys.map (rowOf b g)).Perm rows
  sort : (ys.map (rowOf b g)).Pairwise fun x y => ¬ y < x

theorem sorted_as {g : Heap} {vs : List Value} {rows : List Row} {arr : Array Keyed} (hr : All2 (RowAt b g) vs rows) (hp : arr.Perm (pairsOf vs)) (hs : SL (fun x => rowOf b g x.1) arr.toList) : SortedAs b g rows (arr.map (·.2)).toList := by
  have hp' := Array.perm_iff_toList_perm.mp hp
  have hm : ∀ x ∈ arr.toList, x.1 = x.2 ∧ x.1 ∈ vs := fun x hx => pair_mem (hp'.mem_iff.mp hx)
  have e1 : (arr.map (·.2)).toList = arr.toList.map (·.1) := by
    rw [Array.toList_map]
    exact List.map_congr_left fun x hx => (hm x hx).1.symm
  have pv : ((arr.map (·.2)).toList).Perm vs := by
    rw [e1]
    refine (hp'.map (·.1)).trans ?_
    rw [pairs_list, List.map_map]
    exact List.Perm.of_eq (List.map_id _)
  refine ⟨All2.of_mem fun v hv => hr.mem (pv.mem_iff.mp hv), ?_, ?_⟩
  · rw [← hr.map_rowOf]; exact pv.map _
  · rw [e1, List.map_map, List.pairwise_map]
    exact hs

theorem pw_small {R : Keyed → Keyed → Prop} : ∀ {vs : List Value}, vs.length < 2 → (vs.map fun v => (v, v)).Pairwise R
  | [], _ => .nil
  | [_], _ => List.pairwise_singleton _ _
  | _ :: _ :: _, h => absurd h (by rw [List.length_cons, List.length_cons]; lia)

theorem list_sort_rows {g : Heap} {a : Addr} {vs : List Value} {rows : List Row} {n : Nat} {P : PySem.Fin → Shared → Prop} (hu : A.units < cLine) (ho : s.heap.get? a = some (seqObj "list" vs.toArray n))
    (k0 : g.StaysIn s.heap) (hg : g.get? a = none) (hr : All2 (RowAt b g) vs rows) (h127 : vs.length ≤ 127)
    (h : ∀ ys h', SortedAs b g rows ys → g.StaysIn h' → h'.IsList a ys.toArray → P (.done (.ret .none)) { s with heap := h' }) :
    wpAny (model prog w) A (Builtin.«list.sort» ⟨[.ref a], []⟩) P E s := by
  rw [list_sort_plain]
  have ha : a < s.heap.objs.size := Heap.lt_size ho
  have hsz : vs.toArray.size = vs.length := by simp
  have hl : vs.toArray.size ≤ sizeLine := by rw [hsz, sizeLine_eq]; lia
  refine wpAny_bind (listItems_at ho rfl ?_)
  refine wpAny_bind (listUpdate_at ho rfl ?_ (hsz := hl) (hsz2 := by simp))
  obtain ⟨e1, ho1⟩ : ∃ e1, (s.heap.update a (Obj.mapSeq fun _ => #[])).get? a = some (seqObj "list" #[] e1) := ⟨_, get?_update_seq ho (fun _ => #[])⟩
  refine wpAny_bind (seqEpoch_at ho1 rfl ?_)
  refine wpAny_bind (wpAny_newTuple ?_ )
  refine wpAny_bind (wpAny_newList ?_)
  refine wpAny_holding ?_
  have ho6 : (((s.heap.update a (Obj.mapSeq fun _ => #[])).push (seqObj "tuple" vs.toArray 0)).push (seqObj "list" #[] 0)).get? a = some (seqObj "list" #[] e1) := by
    rw [Heap.get?_push_ne _ _ _ (by rw [size_push', Heap.size_update]; exact Nat.ne_of_lt (Nat.lt_succ_of_lt ha)), Heap.get?_push_ne _ _ _ (by rw [Heap.size_update]; exact Nat.ne_of_lt ha)]
    exact ho1
  have k1 : g.StaysIn (((s.heap.update a (Obj.mapSeq fun _ => #[])).push (seqObj "tuple" vs.toArray 0)).push (seqObj "list" #[] 0)) := by
    intro p o e
    refine Heap.get?_push_of_some _ (Heap.get?_push_of_some _ ?_)
    have hne : p ≠ a := fun h => by rw [h, hg] at e; cases e
    exact ((Heap.SameBut.update s.heap a (Obj.mapSeq fun _ => #[])).2 p hne).trans (k0 p o e)
  show wpAny (model prog w) A _ P E { s with heap := ((s.heap.update a (Obj.mapSeq fun _ => #[])).push (seqObj "tuple" vs.toArray 0)).push (seqObj "list" #[] 0) }
  dsimp only
  have k2 : ∀ out : Array Value, g.StaysIn ((((s.heap.update a (Obj.mapSeq fun _ => #[])).push (seqObj "tuple" vs.toArray 0)).push (seqObj "list" #[] 0)).update a (Obj.mapSeq fun _ => out)) := by
    intro out p o e
    have hne : p ≠ a := fun h => by rw [h, hg] at e; cases e
    exact ((Heap.SameBut.update _ a (Obj.mapSeq fun _ => out)).2 p hne).trans (k1 p o e)
  have k3 : ∀ out : Array Value, ((((s.heap.update a (Obj.mapSeq fun _ => #[])).push (seqObj "tuple" vs.toArray 0)).push (seqObj "list" #[] 0)).update a (Obj.mapSeq fun _ => out)).IsList a out := by
    intro out
    exact ⟨_, get?_update_seq ho6 fun _ => out, rfl, _, rfl⟩
  by_cases h2 : vs.toArray.size < 2
  · rw [if_pos h2, if_pos h2]
    refine wpAny_bind (wpAny_pure ?_)
    rw [StateT.run_pure]
    refine wpAny_bind (wpAny_pure ?_)
    dsimp only
    refine wpAny_bind (seqEpoch_at ho6 rfl ?_)
    refine wpAny_bind (listUpdate_at ho6 rfl ?_ (hsz2 := by rw [Array.size_map]; show (pairsOf vs).size ≤ _; rw [pairsOf_size, sizeLine_eq]; lia))
    simp only [bne_self_eq_false, Bool.false_eq_true, if_false]
    refine wpAny_pure ?_
    refine h _ _ (sorted_as hr (Array.Perm.refl _) (by
      show List.Pairwise _ _
      rw [pairs_list]
      exact pw_small (by simpa using h2))) (k2 _) (k3 _)
  · rw [if_neg h2, if_neg h2]
    have h2' : 2 ≤ vs.length := by lia
    refine wpAny_bind (kas_kind (T := .type "list") h2' (fun v hv => (looks_list ((hr.mem hv).choose_spec.mono k1))) (by decide) (by decide) ?_)
    refine wpAny_bind (wpAny_mono (sortRuns_spec (key := fun x => rowOf b g x.1) (ans_rows (s := { s with heap := ((s.heap.update a (Obj.mapSeq fun _ => #[])).push (seqObj "tuple" vs.toArray 0)).push (seqObj "list" #[] 0) }) hu k1 hr) (st := SortSt.mk' oneType' (vs.toArray.zip vs.toArray) #[] 7 none)
      (Q := fun _ st' => (arrOf st').Perm (pairsOf vs) ∧ failedOf st' = none ∧ SL (fun x => rowOf b g x.1) (arrOf st').toList)
      ⟨Array.Perm.refl _, rfl, rfl, rfl⟩ (by rw [pairsOf_size]; exact h2') (by rw [pairsOf_size]; exact h127) fun st' a1 a2 a3 => ⟨a1, a2, a3⟩) ?_ fun _ _ e => e)
    rintro ⟨⟨⟩, st'⟩ s' ⟨rfl, hp, hf, hs⟩
    dsimp only
    refine wpAny_bind (seqEpoch_at ho6 rfl ?_)
    refine wpAny_bind (listUpdate_at ho6 rfl ?_ (hsz2 := by refine Nat.le_trans (Nat.le_of_eq ((Array.size_map ..).trans (hp.size_eq.trans (pairsOf_size _)))) ?_; rw [sizeLine_eq]; lia))
    rw [hf]
    simp only [bne_self_eq_false, Bool.false_eq_true, if_false]
    exact wpAny_pure (h _ _ (sorted_as hr hp hs) (k2 _) (k3 _))

theorem sorted_rows {l : Addr} {vs : List Value} {rows : List Row} {Q : Value → Shared → Prop} (hu : A.units + 5 < cLine) (hl : s.heap.IsList l vs.toArray) (hr : All2 (RowAt b s.heap) vs rows) (h127 : vs.length ≤ 127)
    (k : ∀ a ys h', s.heap.StaysIn h' → s.heap.get? a = none → h'.IsList a ys.toArray → SortedAs b s.heap rows ys → Q (.ref a) { s with heap := h' }) :
    wpAny (model prog w) A (call (.builtin "sorted") [.ref l]) Q E s := by
  refine Calls.call_function_entry kind_sorted plain_sorted entry_sorted (args_sorted1 _) ?_
  unfold Builtin.«sorted»
  refine wpAny_bind (m := checkCount "sorted" 1 1 _) (wpAny_pure ?_)
  refine wpAny_bind (collect_list hl ?_ (hsz := by rw [sizeLine_eq]; lia))
  refine wpAny_bind (wpAny_newList ?_)
  have hsz : ((s.heap.push (seqObj "list" #[] 0)).update s.heap.objs.size (Obj.mapSeq (· ++ vs.toArray))).objs.size = s.heap.objs.size + 1 := by
    rw [Heap.size_update, size_push']
  have hoL : (((s.heap.push (seqObj "list" #[] 0)).update s.heap.objs.size (Obj.mapSeq (· ++ vs.toArray))).push (seqObj "list" vs.toArray 0)).get? (s.heap.objs.size + 1) = some (seqObj "list" vs.toArray 0) := by
    rw [← hsz]; exact Heap.get?_push_size _ rfl
  have k1 : s.heap.StaysIn (((s.heap.push (seqObj "list" #[] 0)).update s.heap.objs.size (Obj.mapSeq (· ++ vs.toArray))).push (seqObj "list" vs.toArray 0)) := by
    intro p o e
    refine Heap.get?_push_of_some _ ?_
    have hlt := Heap.lt_size e
    exact ((Heap.SameBut.update (s.heap.push (seqObj "list" #[] 0)) s.heap.objs.size _).2 p (Nat.ne_of_lt hlt)).trans (Heap.get?_push_of_some _ e)
  have hn : s.heap.get? (s.heap.objs.size + 1) = none := Heap.get?_none_of_le (by lia)
  show wpAny _ _ _ _ _ { s with heap := ((s.heap.push (seqObj "list" #[] 0)).update s.heap.objs.size (Obj.mapSeq (· ++ vs.toArray))).push (seqObj "list" vs.toArray 0) }
  rw [hsz]
  refine wpAny_bind (wpAny_holding (wpAny_call_entry slot_list_sort ⟨_, hoL, rfl⟩ entry_list_sort (list_sort_rows (g := s.heap) (b := b) (by simp; lia) hoL k1 hn hr h127 fun ys h' a1 a2 a3 => ⟨_, rfl, ?_⟩) (args_list_sort _)))
  exact wpAny_pure ⟨_, rfl, k _ ys _ a2 hn a3 a1⟩
end
end Mine35
end

-- part Pure35
section
set_option maxRecDepth 100000
set_option maxHeartbeats 2000000
set_option linter.unusedVariables false
namespace Mine35

/-- does a part close a front -/
def cond (cs : List Nat) (k i j : Nat) : Bool := !starts ((cs.take k).drop j) && (joinStep ((cs.take k).take i) ((cs.take k).drop j) == cs.take k)
def blk (cs : List Nat) (T : List (List Row)) (k i j : Nat) : List Row :=
  if cond cs k i j = true then (T.getD (i - 1) []).map fun row => row ++ [(cs.take k).drop j] else []
def rowsK (cs : List Nat) (T : List (List Row)) (k : Nat) : List Row :=
  [[cs.take k]] ++ (List.range (k - 1)).flatMap fun n => (List.range k).flatMap fun j => blk cs T k (n + 1) j
def tabL (cs : List Nat) : Nat → List (List Row)
  | 0 => []
  | k + 1 => tabL cs k ++ [rowsK cs (tabL cs k) (k + 1)]

def blkD (cs : List Nat) (k i j : Nat) : List Row :=
  if cond cs k i j = true then (dueR cs i).map fun row => row ++ [(cs.take k).drop j] else []
def rowsD (cs : List Nat) (k : Nat) : List Row :=
  [[cs.take k]] ++ (List.range (k - 1)).flatMap fun n => (List.range k).flatMap fun j => blkD cs k (n + 1) j

theorem starts_drop {f : List Nat} {j : Nat} (hj : j < f.length) : starts (f.drop j) = (f[j] == 47) := by
  unfold starts; rw [List.head?_drop, List.getElem?_eq_getElem hj]; rfl
theorem ends_take {f : List Nat} {i : Nat} (hi : 1 ≤ i) (hf : i ≤ f.length) : ends (f.take i) = (f[i - 1]'(by lia) == 47) := by
  unfold ends
  rw [List.getLast?_eq_getElem?, List.length_take, Nat.min_eq_left hf, List.getElem?_take_of_lt (by lia), List.getElem?_eq_getElem (by lia)]; rfl

theorem cond_front {f : List Nat} {i j : Nat} (hi : 1 ≤ i) (hik : i < f.length) (hj : j < f.length) :
    (!starts (f.drop j) && (joinStep (f.take i) (f.drop j) == f)) = true ↔
      (j = i ∧ f[i - 1]'(by lia) = 47 ∧ f[i] ≠ 47) ∨ (j = i + 1 ∧ f[i - 1]'(by lia) ≠ 47 ∧ f[i] = 47 ∧ f[j] ≠ 47) := by
  have hne : (f.take i).isEmpty = false := by
    rw [List.isEmpty_eq_false_iff]; intro h
    have := congrArg List.length h
    rw [List.length_take, Nat.min_eq_left (by lia)] at this
    rw [List.length_nil] at this; lia
  have hd : ∀ x : List Nat, f.take i ++ x = f ↔ x = f.drop i := by
    intro x
    constructor
    · intro h
      have := congrArg (List.drop i) h
      rw [List.drop_append_of_le_length (by simp; lia)] at this
      simpa using this
    · rintro rfl; exact List.take_append_drop i f
  have hdi : f.drop i = f[i] :: f.drop (i + 1) := List.drop_eq_getElem_cons hik
  rw [Bool.and_eq_true, Bool.not_eq_true', starts_drop hj, beq_iff_eq, beq_eq_false_iff_ne]
  unfold joinStep
  rw [hne, Bool.or_false, starts_drop hj, ends_take hi (by lia)]
  by_cases h1 : f[j] = 47
  · constructor
    · intro h; exact absurd h1 h.1
    · rintro (⟨rfl, _, h⟩ | ⟨_, _, _, h⟩) <;> exact absurd h1 h
  · have e1 : (f[j] == 47) = false := by simpa using h1
    rw [e1, if_neg (by decide)]
    by_cases h2 : f[i - 1]'(by lia) = 47
    · rw [if_pos (by simpa using h2), hd]
      constructor
      · rintro ⟨_, h⟩
        have hl := congrArg List.length h
        rw [List.length_drop, List.length_drop] at hl
        have : j = i := by lia
        subst this
        exact .inl ⟨rfl, h2, h1⟩
      · rintro (⟨rfl, _, _⟩ | ⟨_, h, _, _⟩)
        · exact ⟨h1, rfl⟩
        · exact absurd h2 h
    · rw [if_neg (by simpa using h2), hd, hdi]
      constructor
      · rintro ⟨_, h⟩
        injection h with h3 h4
        have hl := congrArg List.length h4
        rw [List.length_drop, List.length_drop] at hl
        have : j = i + 1 := by lia
        exact .inr ⟨this, h2, h3.symm, h1⟩
      · rintro (⟨_, h, _⟩ | ⟨rfl, _, h, _⟩)
        · exact absurd h h2
        · rw [h]; exact ⟨h1, rfl⟩

theorem getD_take {cs : List Nat} {k i : Nat} (hk : k ≤ cs.length) (hi : i < k) (h : i < (cs.take k).length) : (cs.take k)[i] = cs.getD i 0 := by
  rw [List.getElem_take, List.getD_eq_getElem?_getD, List.getElem?_eq_getElem (by lia)]; rfl

theorem cond_iff {cs : List Nat} {k i j : Nat} (hk : k ≤ cs.length) (hi : 1 ≤ i) (hik : i < k) (hj : j < k) :
    cond cs k i j = true ↔ (j = i ∧ cs.getD (i - 1) 0 = 47 ∧ cs.getD i 0 ≠ 47) ∨ (j = i + 1 ∧ cs.getD (i - 1) 0 ≠ 47 ∧ cs.getD i 0 = 47 ∧ cs.getD j 0 ≠ 47) := by
  have hl : (cs.take k).length = k := by rw [List.length_take]; lia
  unfold cond
  rw [cond_front hi (by lia) (by lia), getD_take hk (by lia), getD_take hk (by lia), getD_take hk (by lia)]

theorem flat_one {α : Type} {X : List α} {F : Nat → List α} : ∀ {k j0 : Nat}, j0 < k → F j0 = X → (∀ j < k, j ≠ j0 → F j = []) → (List.range k).flatMap F = X
  | 0, _, h, _, _ => by lia
  | k + 1, j0, h, h1, h2 => by
    rw [List.range_succ, List.flatMap_append, List.flatMap_singleton]
    by_cases e : j0 = k
    · subst e
      have : (List.range j0).flatMap F = [] := by
        rw [List.flatMap_eq_nil_iff]; intro j hj
        have := List.mem_range.mp hj
        exact h2 j (by lia) (by lia)
      rw [this, h1]; rfl
    · rw [flat_one (by lia) h1 fun j hj => h2 j (by lia), h2 k (by lia) (by lia), List.append_nil]
theorem flat_none {α : Type} {F : Nat → List α} {k : Nat} (h : ∀ j < k, F j = []) : (List.range k).flatMap F = [] := by
  rw [List.flatMap_eq_nil_iff]; intro j hj; exact h j (List.mem_range.mp hj)

def inner (cs : List Nat) (k i : Nat) : List Row :=
  if cs.getD (i - 1) 0 = 47 ∧ cs.getD i 0 ≠ 47 then (dueR cs i).map fun row => row ++ [(cs.take k).drop i]
  else if i + 1 < k ∧ cs.getD (i - 1) 0 ≠ 47 ∧ cs.getD i 0 = 47 ∧ cs.getD (i + 1) 0 ≠ 47 then (dueR cs i).map fun row => row ++ [(cs.take k).drop (i + 1)]
  else []
theorem inner_eq {cs : List Nat} {k i : Nat} (hk : k ≤ cs.length) (hi : 1 ≤ i) (hik : i < k) : (List.range k).flatMap (fun j => blkD cs k i j) = inner cs k i := by
  unfold inner
  by_cases hA : cs.getD (i - 1) 0 = 47 ∧ cs.getD i 0 ≠ 47
  · rw [if_pos hA]
    refine flat_one hik ?_ ?_
    · unfold blkD; rw [if_pos ((cond_iff hk hi hik hik).mpr (.inl ⟨rfl, hA⟩))]
    · intro j hj hne
      unfold blkD; rw [if_neg]
      intro h
      rcases (cond_iff hk hi hik hj).mp h with h | h
      · exact hne h.1
      · exact h.2.1 hA.1
  · rw [if_neg hA]
    by_cases hB : i + 1 < k ∧ cs.getD (i - 1) 0 ≠ 47 ∧ cs.getD i 0 = 47 ∧ cs.getD (i + 1) 0 ≠ 47
    · rw [if_pos hB]
      refine flat_one hB.1 ?_ ?_
      · unfold blkD; rw [if_pos ((cond_iff hk hi hik hB.1).mpr (.inr ⟨rfl, hB.2⟩))]
      · intro j hj hne
        unfold blkD; rw [if_neg]
        intro h
        rcases (cond_iff hk hi hik hj).mp h with h | h
        · exact hA h.2
        · exact hne h.1
    · rw [if_neg hB]
      refine flat_none fun j hj => ?_
      unfold blkD; rw [if_neg]
      intro h
      rcases (cond_iff hk hi hik hj).mp h with h | h
      · exact hA h.2
      · obtain ⟨rfl, h⟩ := h; exact hB ⟨hj, h⟩

theorem rowsD_eq {cs : List Nat} {k : Nat} (hk : k ≤ cs.length) : rowsD cs k = [[cs.take k]] ++ (List.range (k - 1)).flatMap fun n => inner cs k (n + 1) := by
  unfold rowsD
  congr 1
  unfold List.flatMap
  congr 1
  refine List.map_congr_left fun n hn => ?_
  have := List.mem_range.mp hn
  exact inner_eq hk (by lia) (by lia)

theorem drop_snoc {cs : List Nat} {k i : Nat} (hk : k < cs.length) (hi : i ≤ k) : (cs.take (k + 1)).drop i = (cs.take k).drop i ++ [cs.getD k 0] := by
  rw [List.take_add_one, List.drop_append_of_le_length (by rw [List.length_take]; lia), List.getD_eq_getElem?_getD, List.getElem?_eq_getElem hk]; rfl

theorem map_snoc_ext (X : List Row) (p : List Nat) (c : Nat) : (X.map fun row => row ++ [p]).map (rExt c) = X.map fun row => row ++ [p ++ [c]] := by
  rw [List.map_map]; refine List.map_congr_left fun r _ => ?_
  exact rExt_snoc c r p

theorem inner_ext {cs : List Nat} {k i : Nat} (hk : k < cs.length) (hik : i + 1 < k) : inner cs (k + 1) i = (inner cs k i).map (rExt (cs.getD k 0)) := by
  unfold inner
  by_cases hA : cs.getD (i - 1) 0 = 47 ∧ cs.getD i 0 ≠ 47
  · rw [if_pos hA, if_pos hA, map_snoc_ext, drop_snoc hk (by lia)]
  · rw [if_neg hA, if_neg hA]
    by_cases hB : cs.getD (i - 1) 0 ≠ 47 ∧ cs.getD i 0 = 47 ∧ cs.getD (i + 1) 0 ≠ 47
    · rw [if_pos ⟨by lia, hB⟩, if_pos ⟨by lia, hB⟩, map_snoc_ext, drop_snoc hk (by lia)]
    · rw [if_neg (fun h => hB h.2), if_neg (fun h => hB h.2)]; rfl

def bB (cs : List Nat) (k : Nat) : List Row := if 1 < k ∧ cs.getD (k - 2) 0 ≠ 47 ∧ cs.getD (k - 1) 0 = 47 ∧ cs.getD k 0 ≠ 47 then (dueR cs (k - 1)).map (rNew (cs.getD k 0)) else []
def bA (cs : List Nat) (k : Nat) : List Row := if cs.getD (k - 1) 0 = 47 ∧ cs.getD k 0 ≠ 47 then (dueR cs k).map (rNew (cs.getD k 0)) else []

theorem drop_last {cs : List Nat} {k : Nat} (hk : k < cs.length) : (cs.take (k + 1)).drop k = [cs.getD k 0] := by
  rw [drop_snoc hk (Nat.le_refl _)]
  have : (cs.take k).drop k = [] := List.drop_of_length_le (by rw [List.length_take]; lia)
  rw [this]; rfl

theorem inner_last {cs : List Nat} {k : Nat} (hk : k < cs.length) : inner cs (k + 1) k = bA cs k := by
  unfold inner bA
  by_cases hA : cs.getD (k - 1) 0 = 47 ∧ cs.getD k 0 ≠ 47
  · rw [if_pos hA, if_pos hA, drop_last hk]; rfl
  · rw [if_neg hA, if_neg hA, if_neg (fun h => by lia)]

theorem inner_prev {cs : List Nat} {k : Nat} (hk : k < cs.length) (h2 : 1 < k) : inner cs (k + 1) (k - 1) = (inner cs k (k - 1)).map (rExt (cs.getD k 0)) ++ bB cs k := by
  obtain ⟨i, rfl⟩ : ∃ i, k = i + 1 := ⟨k - 1, by lia⟩
  unfold inner bB
  simp only [Nat.add_sub_cancel]
  have e2 : i + 1 - 2 = i - 1 := by lia
  rw [e2]
  by_cases hA : cs.getD (i - 1) 0 = 47 ∧ cs.getD i 0 ≠ 47
  · rw [if_pos hA, if_pos hA, map_snoc_ext, drop_snoc hk (by lia), if_neg (fun h => h.2.1 hA.1), List.append_nil]
  · rw [if_neg hA, if_neg hA, if_neg (c := i + 1 < i + 1 ∧ _) (fun h => by lia)]
    by_cases hB : cs.getD (i - 1) 0 ≠ 47 ∧ cs.getD i 0 = 47 ∧ cs.getD (i + 1) 0 ≠ 47
    · rw [if_pos ⟨by lia, hB⟩, if_pos ⟨h2, hB⟩, drop_last hk]; rfl
    · rw [if_neg (fun h => hB h.2), if_neg (fun h => hB h.2)]; rfl

theorem rowsD_succ {cs : List Nat} {k : Nat} (hk : k < cs.length) (h1 : 1 ≤ k) : rowsD cs (k + 1) = (rowsD cs k).map (rExt (cs.getD k 0)) ++ bB cs k ++ bA cs k := by
  rw [rowsD_eq (by lia), rowsD_eq (by lia)]
  have et : [[cs.take (k + 1)]] = ([[cs.take k]] : List Row).map (rExt (cs.getD k 0)) := by
    have := drop_snoc (i := 0) hk (by lia)
    simp only [List.drop_zero] at this
    rw [this]
    exact congrArg (fun x => [x]) (rExt_snoc (cs.getD k 0) [] (cs.take k)).symm
  have ek : k + 1 - 1 = (k - 1) + 1 := by lia
  rw [ek, List.range_succ, List.flatMap_append, List.flatMap_singleton, et, List.map_append, List.append_assoc, List.append_assoc]
  congr 1
  have e1 : k - 1 + 1 = k := by lia
  rw [e1, inner_last hk, ← List.append_assoc]
  congr 1
  rcases Nat.lt_or_ge 1 k with h2 | h2
  · have ek2 : k - 1 = (k - 2) + 1 := by lia
    have e3 : k - 2 + 1 = k - 1 := by lia
    rw [ek2, List.range_succ, List.flatMap_append, List.flatMap_singleton, List.flatMap_append, List.flatMap_singleton, e3, List.map_append, inner_prev hk h2, ← List.append_assoc]
    congr 2
    rw [List.map_flatMap]
    unfold List.flatMap
    congr 1
    refine List.map_congr_left fun n hn => ?_
    have := List.mem_range.mp hn
    exact inner_ext hk (by lia)
  · have : k = 1 := by lia
    subst this
    unfold bB
    rw [if_neg (fun h => by lia)]; rfl

theorem row_snoc {row : Row} (h : row ≠ []) : ∃ r p, row = r ++ [p] := ⟨_, _, (List.dropLast_concat_getLast h).symm⟩

theorem cut_new {cs : List Nat} {k c : Nat} (h1 : 1 ≤ k) (h47 : cs.getD (k - 1) 0 = 47) : (dueR cs k).map (rCut c) = (dueR cs (k - 1)).map (rNew c) := by
  obtain ⟨i, rfl⟩ : ∃ i, k = i + 1 := ⟨k - 1, by lia⟩
  simp only [Nat.add_sub_cancel] at h47 ⊢
  have e : dueR cs (i + 1) = (dueR cs i).map (rExt 47) := by
    show dueStep cs i (dueR cs i) = _
    unfold dueStep
    rw [h47, if_neg (by simp), List.append_nil]
  rw [e, List.map_map]
  refine List.map_congr_left fun row hr => ?_
  obtain ⟨r, p, rfl⟩ := row_snoc (dueR_ok cs i row hr).1
  show rCut c (rExt 47 (r ++ [p])) = rNew c (r ++ [p])
  rw [rExt_snoc, rCut_snoc]
  unfold rNew
  simp

theorem rowsD_perm {cs : List Nat} : ∀ {k : Nat}, 1 ≤ k → k ≤ cs.length → (rowsD cs k).Perm (dueR cs k)
  | 0, h, _ => by lia
  | 1, _, h => by
    refine List.Perm.of_eq ?_
    rw [rowsD_eq h]
    show [[cs.take 1]] ++ [] = dueStep cs 0 [[[]]]
    unfold dueStep
    rw [if_neg (by simp), List.append_nil, List.append_nil]
    have := drop_last (k := 0) h
    simp only [List.drop_zero] at this
    rw [this]; rfl
  | k + 2, _, h => by
    rw [rowsD_succ (cs := cs) (k := k + 1) (by lia) (by lia)]
    have ih := rowsD_perm (cs := cs) (k := k + 1) (by lia) (by lia)
    show List.Perm _ (dueStep cs (k + 1) (dueR cs (k + 1)))
    unfold dueStep
    rw [List.append_assoc]
    refine (ih.map _).append ?_
    unfold bA bB
    have e1 : k + 1 - 1 = k := by lia
    have e2 : k + 1 - 2 = k - 1 := by lia
    have h1 : (cs.getD (k + 1) 0 != 47 && (decide (0 < k + 1) && cs.getD (k + 1 - 1) 0 == 47)) = true ↔ (cs.getD (k + 1 - 1) 0 = 47 ∧ cs.getD (k + 1) 0 ≠ 47) := by
      simp only [Bool.and_eq_true, bne_iff_ne, decide_eq_true_eq, beq_iff_eq]
      exact ⟨fun h => ⟨h.2.2, h.1⟩, fun h => ⟨h.2, by lia, h.1⟩⟩
    have h2 : (decide (1 < k + 1) && cs.getD (k + 1 - 2) 0 != 47) = true ↔ (1 < k + 1 ∧ cs.getD (k + 1 - 2) 0 ≠ 47) := by
      simp only [Bool.and_eq_true, bne_iff_ne, decide_eq_true_eq]
    by_cases hA : cs.getD (k + 1 - 1) 0 = 47 ∧ cs.getD (k + 1) 0 ≠ 47
    · have a1 := h1.mpr hA
      rw [if_pos hA, if_pos a1]
      by_cases hB : 1 < k + 1 ∧ cs.getD (k + 1 - 2) 0 ≠ 47
      · have a2 := h2.mpr hB
        have a3 : 1 < k + 1 ∧ cs.getD (k + 1 - 2) 0 ≠ 47 ∧ cs.getD (k + 1 - 1) 0 = 47 ∧ cs.getD (k + 1) 0 ≠ 47 := ⟨hB.1, hB.2, hA⟩
        rw [if_pos a3, if_pos a2, cut_new (by lia) hA.1]
        exact List.perm_append_comm
      · have a2 := fun h => hB (h2.mp h)
        have a3 : ¬ (1 < k + 1 ∧ cs.getD (k + 1 - 2) 0 ≠ 47 ∧ cs.getD (k + 1 - 1) 0 = 47 ∧ cs.getD (k + 1) 0 ≠ 47) := fun h => hB ⟨h.1, h.2.1⟩
        rw [if_neg a3, if_neg a2, List.append_nil]
        exact List.Perm.refl _
    · have a1 := fun h => hA (h1.mp h)
      have a3 : ¬ (1 < k + 1 ∧ cs.getD (k + 1 - 2) 0 ≠ 47 ∧ cs.getD (k + 1 - 1) 0 = 47 ∧ cs.getD (k + 1) 0 ≠ 47) := fun h => hA h.2.2
      rw [if_neg hA, if_neg a3, if_neg a1]
      exact List.Perm.refl _

theorem flat_perm {α β : Type} {F G : α → List β} : ∀ {l : List α}, (∀ x ∈ l, (F x).Perm (G x)) → (l.flatMap F).Perm (l.flatMap G)
  | [], _ => .refl _
  | x :: l, h => by
    rw [List.flatMap_cons, List.flatMap_cons]
    exact (h x (.head _)).append (flat_perm fun y hy => h y (.tail _ hy))

theorem rowsK_perm {cs : List Nat} {T : List (List Row)} {k : Nat} (h1 : 1 ≤ k) (hk : k ≤ cs.length) (hT : ∀ i, i + 1 < k → (T.getD i []).Perm (dueR cs (i + 1))) : (rowsK cs T k).Perm (dueR cs k) := by
  refine List.Perm.trans ?_ (rowsD_perm h1 hk)
  unfold rowsK rowsD
  refine (List.Perm.refl _).append (flat_perm fun n hn => flat_perm fun j hj => ?_)
  have hn := List.mem_range.mp hn
  unfold blk blkD
  split
  · exact (hT n (by lia)).map _
  · exact .refl _

theorem tabL_length (cs : List Nat) : ∀ n, (tabL cs n).length = n
  | 0 => rfl
  | n + 1 => by rw [tabL, List.length_append, tabL_length cs n]; rfl
theorem tabL_perm {cs : List Nat} : ∀ {n : Nat}, n ≤ cs.length → ∀ i, i < n → ((tabL cs n).getD i []).Perm (dueR cs (i + 1))
  | 0, _, i, h => by lia
  | n + 1, hn, i, h => by
    have ih := tabL_perm (cs := cs) (n := n) (by lia)
    have hl := tabL_length cs n
    unfold tabL
    rw [List.getD_eq_getElem?_getD]
    by_cases e : i < n
    · rw [List.getElem?_append_left (by lia), ← List.getD_eq_getElem?_getD]
      exact ih i e
    · have : i = n := by lia
      subst this
      rw [List.getElem?_append_right (by lia), hl, Nat.sub_self]
      exact rowsK_perm (by lia) (by lia) fun j hj => ih j (by lia)

theorem dueR_len2 (cs : List Nat) : ∀ k, (dueR cs (k + 2)).length ≤ 3 * (dueR cs k).length := by
  intro k
  have tr : ∀ j (rows : List Row), (dueStep cs j rows).length ≤ 3 * rows.length := by
    intro j rows; unfold dueStep; split
    · split <;> simp <;> lia
    · simp; lia
  have one : ∀ j (rows : List Row), ¬ (cs.getD j 0 ≠ 47 ∧ 0 < j ∧ cs.getD (j - 1) 0 = 47) → (dueStep cs j rows).length = rows.length := by
    intro j rows h; unfold dueStep; rw [if_neg]
    · simp
    · simp only [Bool.and_eq_true, bne_iff_ne, decide_eq_true_eq, beq_iff_eq]; exact h
  show (dueStep cs (k + 1) (dueStep cs k (dueR cs k))).length ≤ _
  by_cases h : cs.getD k 0 = 47
  · refine Nat.le_trans (tr _ _) ?_
    rw [one k _ (fun x => x.1 h)]; lia
  · rw [one (k + 1) _ (fun x => h x.2.2)]
    exact tr _ _
theorem dueR_81 (cs : List Nat) {k : Nat} (h : k ≤ 9) : (dueR cs k).length ≤ 81 := by
  have h0 : (dueR cs 0).length = 1 := rfl
  have h1 : (dueR cs 1).length = 1 := by show (dueStep cs 0 [[[]]]).length = 1; unfold dueStep; rw [if_neg (by simp)]; rfl
  have d := dueR_len2 cs
  have d0 := d 0; have d1 := d 1; have d2 := d 2; have d3 := d 3; have d4 := d 4; have d5 := d 5; have d6 := d 6; have d7 := d 7
  rcases k with _ | _ | _ | _ | _ | _ | _ | _ | _ | _ | k <;> simp only [Nat.zero_add, Nat.reduceAdd] at * <;> lia

/-- joined, a row gives its front again -/
theorem dueR_join (cs : List Nat) (k : Nat) (h1 : 1 ≤ k) (hk : k ≤ cs.length) : ∀ row ∈ dueR cs k, ∃ a ps, row = a :: ps ∧ joinL a ps = cs.take k ∧ starts a = starts cs := by
  induction k using Nat.strongRecOn with
  | ind k ih =>
    intro row hr
    have hm := (rowsD_perm h1 hk).mem_iff.mpr hr
    unfold rowsD at hm
    rcases List.mem_append.mp hm with hm | hm
    · rw [List.mem_singleton.mp hm]
      refine ⟨_, [], rfl, rfl, ?_⟩
      unfold starts
      rw [List.head?_take, if_neg (by lia)]
    · obtain ⟨n, hn, hm⟩ := List.mem_flatMap.mp hm
      obtain ⟨j, hj, hm⟩ := List.mem_flatMap.mp hm
      have hn := List.mem_range.mp hn
      have hj := List.mem_range.mp hj
      unfold blkD at hm
      split at hm
      · rename_i hc
        obtain ⟨r, hr', rfl⟩ := List.mem_map.mp hm
        obtain ⟨a, ps, rfl, e1, e2⟩ := ih (n + 1) (by lia) (by lia) (by lia) r hr'
        refine ⟨a, ps ++ [(cs.take k).drop j], rfl, ?_, e2⟩
        rw [joinL_snoc, e1]
        unfold cond at hc
        rw [Bool.and_eq_true, beq_iff_eq, List.take_take, Nat.min_eq_left (by lia)] at hc
        exact hc.2
      · cases hm

theorem sorted_unique : ∀ {l l' : List Row}, l.Perm l' → l.Pairwise (fun x y => ¬ y < x) → l'.Pairwise (fun x y => ¬ y < x) → l = l'
  | [], l', p, _, _ => by exact (List.length_eq_zero_iff.mp p.length_eq.symm).symm
  | x :: l, [], p, _, _ => by have := p.length_eq; simp at this
  | x :: l, y :: l', p, s, s' => by
    have s := List.pairwise_cons.mp s
    have s' := List.pairwise_cons.mp s'
    have hxy : x = y := by
      have hx : x ∈ y :: l' := p.mem_iff.mp (.head _)
      have hy : y ∈ x :: l := p.mem_iff.mpr (.head _)
      rcases List.mem_cons.mp hx with h | h
      · exact h
      · rcases List.mem_cons.mp hy with h' | h'
        · exact h'.symm
        · exact rle_antisymm (s'.1 x h) (s.1 y h')
    subst hxy
    rw [sorted_unique (p.cons_inv) s.2 s'.2]
end Mine35
end

-- part LawA35
section
set_option maxRecDepth 100000
set_option maxHeartbeats 4000000
set_option linter.unusedVariables false
namespace Mine35
open PySem PySem.W PySem.Calls PyProof.Rows
open PyProof.Rows.LCg (NsObj ns_obj lst lst_snoc)
open PySem.SeqAt (EqAt RcAt RcNeAt)

section
variable {prog : Program} {w : World} {A : Around} {E : Value → Shared → Prop} {s : Shared} {env : Env} {b : Bool}

/-- a def of the top with two captured names, called -/
theorem call_fnC2 {f : Addr} {name qual : Str} {params : Arguments} {body : List Stmt} {scope : Scope} {dV kV doc pm cdv ct oc : Value} {an od : Option Addr} {osl : Array (Option Value)} {args : List Value} {binds : List (Str × Value)} {h : Heap} {t : Nat} {Q : Value → Shared → Prop} {c d : Str} (hcd' : (c == d) = false)
    (hw : Wd w h) (ho : (KF w).lookup f = some ⟨oc, od, .func (fnOf name qual params body scope dV kV doc pm an cdv ct), osl⟩) (hcd : codeIn (KF w) cdv qual = true) (hroom : A.depth < recursionLimit)
    (hbind : bindArgs (fnOf name qual params body scope dV kV doc pm an cdv ct) ⟨args, []⟩ = pure binds) (hcell : ∀ L, cellsFrom (L + 1) scope.names [] = [(d, L + 2), (c, L + 1)]) (hloc : ∀ x ∈ binds, scope.names.lookup x.1 = some .local)
    (k : ∀ L h₁ t₁ E' o o', o.data = .cell none → o'.data = .cell none → S h h₁ L (bindL (envOfC qual scope L f cdv).kindOf binds fun _ => none) [(L + 1, o), (L + 2, o')] →
      wpAny (model prog w) (A.deeper (envOfC qual scope L f cdv)) (execs body (envOfC qual scope L f cdv)) (fun fl s' => Q (match fl with | .ret v => v | _ => .none) s') E' (St s h₁ t₁))
    (hco : scope.isCoroutine = false := by rfl) (hgen : scope.isGenerator = false := by rfl) (hk : scope.kind = .function := by rfl) :
    wpAny (model prog w) A (call (.ref f) args) Q E (St s h t) := by
  refine wpAny_call (codeAny_call_cells (s := St s h t) (fd := fnOf name qual params body scope dV kV doc pm an cdv ct) (body := body) (binds := binds) hroom (hw.K _ _ ho) rfl hw.lim (codeRec_of hw.K hcd) rfl hbind rfl (fun x hx => .inl (hloc x hx)) (fun s₁ hI => ?_) hco hgen hk)
  have hbc : ∀ (l : List (Str × Value)) (m₀ : Str → Option Value), (∀ x ∈ l, scope.names.lookup x.1 = some .local) → bindC (envOfC qual scope h.objs.size f cdv).kindOf l m₀ = m₀ := by
    intro l
    induction l with
    | nil => intro m₀ _; rfl
    | cons p r ih =>
      intro m₀ hl'
      obtain ⟨n, v⟩ := p
      have e : (envOfC qual scope h.objs.size f cdv).kindOf n = some .local := hl' (n, v) (.head _)
      show bindC _ r (if (envOfC qual scope h.objs.size f cdv).kindOf n = some .local then m₀ else _) = m₀
      rw [if_pos e]
      exact ih m₀ fun x hx => hl' x (.tail _ hx)
  obtain ⟨⟨h₁, t₁, rfl⟩, hns, hkeep, _⟩ := hI.toInCall
  have hcl : (callEnvC (fnOf name qual params body scope dV kV doc pm an cdv ct) (St s h t).heap.objs.size f).cells = [(d, h.objs.size + 2), (c, h.objs.size + 1)] := hcell h.objs.size
  obtain ⟨o, eo, od'⟩ := hI.cell c (h.objs.size + 1) (by rw [hcl]; simp only [List.lookup, hcd', beq_self_eq_true])
  obtain ⟨o2, eo2, od2'⟩ := hI.cell d (h.objs.size + 2) (by rw [hcl]; simp only [List.lookup, beq_self_eq_true])
  have hbn := hbc binds (fun _ => none) hloc
  have od2 : o.data = .cell none := od'.trans (congrArg Data.cell (congrFun hbn c))
  have od3 : o2.data = .cell none := od2'.trans (congrArg Data.cell (congrFun hbn d))
  have s₁ : S h h₁ h.objs.size (bindL (envOfC qual scope h.objs.size f cdv).kindOf binds fun _ => none) [(h.objs.size + 1, o), (h.objs.size + 2, o2)] :=
    ⟨hkeep, hns, size_none h, fun p hp => by
        simp only [List.mem_cons, List.not_mem_nil, or_false] at hp
        rcases hp with rfl | rfl
        · exact eo
        · exact eo2,
      fun p hp => by
        simp only [List.mem_cons, List.not_mem_nil, or_false] at hp
        rcases hp with rfl | rfl
        · exact ⟨Heap.get?_none_of_le (Nat.le_succ _), Nat.succ_ne_self _⟩
        · exact ⟨Heap.get?_none_of_le (by lia), show h.objs.size + 2 ≠ h.objs.size by lia⟩, by simp⟩
  refine wpAny_mono (k h.objs.size h₁ t₁ _ o o2 od2 od3 s₁) (fun fl s' hq => hq) fun _ _ e => e

/-- rows that tell the same are equal -/
theorem row_eqAt {u v : Value} {r : Row} (hu : A.units < cLine) (ru : RowAt b s.heap u r) (rv : RowAt b s.heap v r) : EqAt A s u v true := by
  obtain ⟨x, vs, rfl, lx, px⟩ := ru
  obtain ⟨y, ws, rfl, ly, py⟩ := rv
  by_cases e : x = y
  · subst e; exact EqAt.same _
  · have hl : vs.length = ws.length := px.length.trans py.length.symm
    have := EqAt.of_refs e (RcAt.lists (A := A) (e := fun _ => true) lx ly (by simpa using hl) hu ?_)
    · have e2 : ((List.range vs.toArray.size).all fun _ => true) = true := by simp
      rw [e2] at this; exact this
    · intro j h1 h2 prog w E Q q
      simp only [List.size_toArray] at h1 h2
      obtain ⟨c, hc, pc⟩ := px.get (List.getElem?_eq_getElem h1)
      obtain ⟨d, hd, pd⟩ := py.get (List.getElem?_eq_getElem h2)
      rw [hc] at hd; cases hd
      refine eqBool_part (b := b) (cs := c) (ds := c) ?_ ?_ (by simpa using q)
      · simpa using pc
      · simpa using pd

theorem ne_rows {x y : Addr} {us vs : List Value} {rows : List Row} {Q : Value → Shared → Prop} (hu : A.units + 5 < cLine) (lx : s.heap.IsList x us.toArray) (ly : s.heap.IsList y vs.toArray) (ru : All2 (RowAt b s.heap) us rows) (rv : All2 (RowAt b s.heap) vs rows) (k : Q (.bool false) s) :
    wpAny (model prog w) A (compareOp .NotEq (.ref x) (.ref y)) Q E s := by
  have hl : us.length = vs.length := ru.length.trans rv.length.symm
  have := RcNeAt.lists (A := A) (e := fun _ => true) lx ly (by simpa using hl) (by lia) ?_
  · have e2 : (!(List.range us.toArray.size).all fun _ => true) = false := by simp
    rw [e2] at this
    exact this prog w E Q k
  · intro j h1 h2
    simp only [List.size_toArray] at h1 h2
    obtain ⟨c, hc, pc⟩ := ru.get (List.getElem?_eq_getElem h1)
    obtain ⟨d, hd, pd⟩ := rv.get (List.getElem?_eq_getElem h2)
    rw [hc] at hd; cases hd
    refine row_eqAt (b := b) (r := c) (by simp; lia) ?_ ?_
    · simpa using pc
    · simpa using pd

theorem ev_upto {value : Expr} {upper : Expr} {p pos : Pos} {s₀ : Shared} {Q : Value → Shared → Prop}
    (H : wpAny (model prog w) A (eval value env) (fun o s₁ => wpAny (model prog w) A (eval upper env) (fun i s₂ => ∃ (l : Addr) (vs : List Value) (u : Tok) (k : Nat), o = .ref l ∧ i = .int (k : Int) u ∧ s₂.heap.IsList l vs.toArray ∧ vs.length ≤ 16777216 ∧
      ∀ a h', s₂.heap.StaysIn h' → s₂.heap.get? a = none → h'.get? a = some (lo (vs.take k) 0) → Q (.ref a) { s₂ with heap := h' }) E s₁) E s₀)
    (ht : ∀ o r, letTemporaryGo value o r = pure () := by intro _ _; rfl) :
    wpAny (model prog w) A (eval (.Subscript value (.Slice none (some upper) none p) pos) env) Q E s₀ := by
  refine wpAny_Subscript_list_slice (wpAny_mono H (fun o s₁ h₁ => wpAny_evalPart_none (wpAny_evalPart_some (wpAny_mono h₁ (fun i s₂ h₂ => ?_) fun _ _ x => x))) fun _ _ x => x) ht
  obtain ⟨l, vs, u, n, rfl, rfl, hl, hz, q⟩ := h₂
  refine ⟨l, vs.toArray, none, some (n : Int), rfl, hl, by rw [sizeLine_eq]; simpa using hz, .none, .int _ _, ?_⟩
  rw [slicePick_upto']
  refine q _ _ (stays_trans (stays_push _ _) (stays_push _ _)) (Heap.get?_none_of_le (Nat.le_succ _)) ?_
  have hsz : s₂.heap.objs.size + 1 = (s₂.heap.push { cls := .type "slice", data := .fields #[.none, .int (n : Int) u, .none] }).objs.size := by rw [Heap.size_push]
  rw [hsz]; exact push_get _ _

theorem ev_sjoin {o arg : Expr} {apos pos : Pos} {s₀ : Shared} {Q : Value → Shared → Prop}
    (H : wpAny (model prog w) A (eval o env) (fun ov s₁ => ∃ x t, ov = .str x t ∧ x.length ≤ 64 ∧ wpAny (model prog w) A (eval arg env) (fun v s₂ => ∃ D vs ys, v = .ref D ∧ s₂.heap.IsList D vs.toArray ∧ StrsAre vs ys ∧ (ys.map (·.length)).sum + ys.length * 64 ≤ 16777216 ∧
      ∀ t' k, Q (.str (Txt.join x ys) t') { s₂ with toks := k }) E s₁) E s₀)
    (hbase : attributeBase o (Str.ofString "join") env (eval o env) = eval o env := by rfl)
    (hfew : ((backTo pos (starEach [arg] env)).all (fun x => !x.1) && (backToKw pos (keywordEach [] env)).all (fun x => x.1.isSome)
      && decide ([arg].length + ([] : List Keyword).length + (if ([] : List Keyword).isEmpty then 0 else 1) < 30)) = true := by rfl)
    (hline : (apos.endLine == pos.line) = true := by rfl)
    (he : starEach [arg] env = (false, eval arg env) :: starEach [] env := by rfl) :
    wpAny (model prog w) A (eval (.Call (.Attribute o (Str.ofString "join") apos) [arg] [] pos) env) Q E s₀ := by
  refine wpAny_Call_method (T := "str") (id := "str.join") hbase hfew hline F.plainAttrs_str F.slot_str_join F.type_str_join (wpAny_mono H (fun ov s₁ h₁ => ?_) fun _ _ x => x)
  obtain ⟨x, t, rfl, hx, h₁⟩ := h₁
  refine ⟨typeIs_str _ _ _, fun a e => (nomatch e), cw_m1 (wpAny_mono h₁ (fun v s₂ h₂ => ?_) fun _ _ x => x) he⟩
  obtain ⟨D, vs, ys, rfl, hl, hs, hz, q⟩ := h₂
  exact join_listC hl (by simpa using hs) hx hz q

/-- signs glued together -/
theorem glue_cps : ∀ {ys : List Str} {cs : List Nat}, All2 (fun (y : Str) c => y.cps.toList = [c]) ys cs → (Str.join (Str.ofString "") ys).cps.toList = cs
  | [], [], _ => rfl
  | [y], [c], h => h.1
  | y :: y' :: ys, c :: c' :: cs, h => by
    have ih := glue_cps (ys := y' :: ys) (cs := c' :: cs) h.2
    show (y ++ Str.ofString "" ++ Str.join (Str.ofString "") (y' :: ys)).cps.toList = _
    rw [app_cps, app_cps, ih, h.1]; rfl
  | [], _ :: _, h => h.elim
  | _ :: _, [], h => h.elim
  | [_], _ :: _ :: _, h => h.2.elim
  | _ :: _ :: _, [_], h => h.2.elim
theorem join_signs {ys : List Str} {cs : List Nat} (h : All2 (fun (y : Str) c => y.cps.toList = [c]) ys cs) : (Txt.join (Str.ofString "") ys).cps.toList = cs := by
  rw [eq_of_beq (join_plain_closes (Str.ofString "") ys)]; exact glue_cps h
end
end Mine35
end

-- part PureB35
section
set_option maxRecDepth 100000
set_option maxHeartbeats 2000000
set_option linter.unusedVariables false
namespace Mine35
open PySem PySem.W PySem.Calls PyProof.Rows
open PyProof.Rows.LCg (NsObj ns_obj lst lst_snoc)

def preR (cs : List Nat) (T : List (List Row)) (k i j : Nat) : List Row :=
  [[cs.take k]] ++ ((List.range i).flatMap (fun n => (List.range k).flatMap fun j => blk cs T k (n + 1) j) ++ (List.range j).flatMap fun j => blk cs T k (i + 1) j)
theorem preR_zero (cs : List Nat) (T : List (List Row)) (k : Nat) : preR cs T k 0 0 = [[cs.take k]] := rfl
theorem preR_step (cs : List Nat) (T : List (List Row)) (k i j : Nat) : preR cs T k i (j + 1) = preR cs T k i j ++ blk cs T k (i + 1) j := by
  unfold preR
  rw [List.range_succ, List.flatMap_append, List.flatMap_singleton]; simp only [List.append_assoc]
theorem preR_next (cs : List Nat) (T : List (List Row)) (k i : Nat) : preR cs T k i k = preR cs T k (i + 1) 0 := by
  unfold preR
  rw [List.range_succ (n := i), List.flatMap_append, List.flatMap_singleton]; simp
theorem preR_done (cs : List Nat) (T : List (List Row)) (k : Nat) : preR cs T k (k - 1) 0 = rowsK cs T k := by
  unfold preR rowsK; simp
theorem preR_j (cs : List Nat) (T : List (List Row)) (k i j : Nat) : ∀ d, (preR cs T k i j).length ≤ (preR cs T k i (j + d)).length
  | 0 => Nat.le_refl _
  | d + 1 => by rw [← Nat.add_assoc, preR_step, List.length_append]; exact Nat.le_trans (preR_j cs T k i j d) (Nat.le_add_right _ _)
theorem preR_i (cs : List Nat) (T : List (List Row)) (k i : Nat) : ∀ d, (preR cs T k i 0).length ≤ (preR cs T k (i + d) 0).length
  | 0 => Nat.le_refl _
  | d + 1 => by
    rw [← Nat.add_assoc, ← preR_next]
    have := preR_j cs T k (i + d) 0 k
    rw [Nat.zero_add] at this
    exact Nat.le_trans (preR_i cs T k i d) this
theorem preR_len {cs : List Nat} {T : List (List Row)} {k i j : Nat} (hi : i < k - 1) (hj : j ≤ k) : (preR cs T k i j).length ≤ (rowsK cs T k).length := by
  have h1 := preR_j cs T k i j (k - j)
  rw [Nat.add_sub_cancel' hj, preR_next] at h1
  have h2 := preR_i cs T k (i + 1) (k - 1 - (i + 1))
  rw [Nat.add_sub_cancel' (by lia), preR_done] at h2
  exact Nat.le_trans h1 h2

theorem rows_small {cs : List Nat} {k0 : Nat} (h : k0 < cs.length) (h9 : cs.length ≤ 9) : (rowsK cs (tabL cs k0) (k0 + 1)).length ≤ 81 := by
  rw [(rowsK_perm (T := tabL cs k0) (Nat.succ_pos k0) h fun i hi => tabL_perm (by lia) i (by lia)).length_eq]
  exact dueR_81 cs (by lia)
theorem tab_small {cs : List Nat} {n i : Nat} (hn : n ≤ cs.length) (h9 : cs.length ≤ 9) (hi : i < n) : ((tabL cs n).getD i []).length ≤ 81 := by
  rw [(tabL_perm hn i hi).length_eq]; exact dueR_81 cs (by lia)
theorem tab_row {cs : List Nat} {n i : Nat} (hn : n ≤ cs.length) (h9 : cs.length ≤ 9) (hi : i < n) : ∀ row ∈ (tabL cs n).getD i [], row.length ≤ 10 ∧ ∀ p ∈ row, p.length ≤ 9 := by
  intro row hr
  obtain ⟨_, a, b⟩ := dueR_ok cs (i + 1) row ((tabL_perm hn i hi).mem_iff.mp hr)
  exact ⟨by lia, fun p hp => Nat.le_trans (b p hp) (by lia)⟩

section
variable {prog : Program} {w : World} {A : Around} {E : Value → Shared → Prop} {s : Shared} {h g : Heap} {t : Nat} {Q : Value → Shared → Prop} {L : Addr} {m : Str → Option Value}
theorem cw_fnK {env : Env} {a : Addr} {o : Obj} {fd : FuncData} {pos : Pos} {e : Expr} {rest : List Expr} {s : Shared} (ho : (KF w).lookup a = some o) (hd : o.data = .func fd)
    (H : wpAny (model prog w) A (spliced (backTo pos (starEach (e :: rest) env))) (fun vs s₁ => Wd w s₁.heap ∧ wpAny (model prog w) A (call (.ref a) vs) Q E s₁) E s)
    (he : starEach (e :: rest) env = (false, eval e env) :: starEach rest env := by rfl) :
    wpAny (model prog w) A (callWith pos (.ref a) [] (backTo pos (starEach (e :: rest) env)) (backToKw pos (keywordEach [] env))) Q E s :=
  cw_fn (o := o) (fd := fd) (wpAny_mono H (fun vs s₁ h => ⟨⟨h.1.K _ _ ho, hd⟩, h.2⟩) fun _ _ x => x) he
theorem iadd_listM (pre post : List (Addr × Obj)) {a d : Addr} {vs ws : List Value} {n : Nat} (s₀ : S g h L m (pre ++ (a, lo vs n) :: post)) (hd : h.IsList d ws.toArray) (hsz : vs.length + ws.length ≤ 16777216)
    (k : ∀ h' n', S g h' L m (pre ++ (a, lo (vs ++ ws) n') :: post) → Q (.ref a) (St s h' t)) : wpAny (model prog w) A (inplaceOp .Add (.ref a) (.ref d)) Q E (St s h t) :=
  iadd_list (s₀.perm List.perm_middle) hd hsz fun h' n' s' => k h' n' (s'.perm List.perm_middle.symm)
end
end Mine35
end

-- part PureC35
section
set_option maxRecDepth 100000
set_option maxHeartbeats 2000000
set_option linter.unusedVariables false
namespace Mine35
open PySem PySem.W PySem.Calls PyProof.Rows
open PyProof.Rows.LCg (NsObj ns_obj lst lst_snoc)

def Low (row : Row) : Prop := ∀ p ∈ row, ∀ c ∈ p, c < 256

theorem due_low {cs : List Nat} (h : ∀ c ∈ cs, c < 256) : ∀ k, k ≤ cs.length → ∀ row ∈ dueR cs k, Low row
  | 0, _, row, hr => by
    rw [List.mem_singleton.mp hr]
    intro p hp c hc
    rw [List.mem_singleton.mp hp] at hc; cases hc
  | k + 1, hk, row, hr => by
    have ih := due_low h k (by lia)
    have hc0 : cs.getD k 0 < 256 := by
      rw [List.getD_eq_getElem?_getD, List.getElem?_eq_getElem (by lia)]
      exact h _ (List.getElem_mem _)
    have sn : ∀ r ∈ dueR cs k, ∃ r₀ p, r = r₀ ++ [p] := fun r hr => row_snoc (dueR_ok cs k r hr).1
    have ext : ∀ r ∈ dueR cs k, Low (rExt (cs.getD k 0) r) := by
      intro r hr p hp c hc
      obtain ⟨r₀, q, rfl⟩ := sn r hr
      rw [rExt_snoc] at hp
      rcases List.mem_append.mp hp with hp | hp
      · exact ih _ hr p (List.mem_append_left _ hp) c hc
      · rw [List.mem_singleton.mp hp] at hc
        rcases List.mem_append.mp hc with hc | hc
        · exact ih _ hr q (by simp) c hc
        · rw [List.mem_singleton.mp hc]; exact hc0
    have new : ∀ r ∈ dueR cs k, Low (rNew (cs.getD k 0) r) := by
      intro r hr p hp c hc
      unfold rNew at hp
      rcases List.mem_append.mp hp with hp | hp
      · exact ih _ hr p hp c hc
      · rw [List.mem_singleton.mp hp] at hc
        rw [List.mem_singleton.mp hc]; exact hc0
    have cut : ∀ r ∈ dueR cs k, Low (rCut (cs.getD k 0) r) := by
      intro r hr p hp c hc
      obtain ⟨r₀, q, rfl⟩ := sn r hr
      rw [rCut_snoc] at hp
      rcases List.mem_append.mp hp with hp | hp
      · exact ih _ hr p (List.mem_append_left _ hp) c hc
      · simp only [List.mem_cons, List.not_mem_nil, or_false] at hp
        rcases hp with rfl | rfl
        · exact ih _ hr q (by simp) c (List.dropLast_subset _ hc)
        · rw [List.mem_singleton.mp hc]; exact hc0
    unfold dueR dueStep at hr
    rcases List.mem_append.mp hr with hr | hr
    · obtain ⟨r, hr', rfl⟩ := List.mem_map.mp hr; exact ext r hr'
    · split at hr
      · rcases List.mem_append.mp hr with hr | hr
        · obtain ⟨r, hr', rfl⟩ := List.mem_map.mp hr; exact new r hr'
        · split at hr
          · obtain ⟨r, hr', rfl⟩ := List.mem_map.mp hr; exact cut r hr'
          · cases hr
      · cases hr

theorem PartL.of {b : Bool} : ∀ {vs : List Value} {cs : Row}, vs.length = cs.length → (∀ (i : Nat) (v : Value), vs[i]? = some v → ∃ c, cs[i]? = some c ∧ Part b v c) → PartL b vs cs
  | [], [], _, _ => trivial
  | v :: vs, c :: cs, hl, h => ⟨by obtain ⟨c', e, r⟩ := h 0 v rfl; cases e; exact r, PartL.of (by simpa using hl) fun i v e => h (i + 1) v (by simpa using e)⟩
  | [], _ :: _, hl, _ => by simp at hl
  | _ :: _, [], hl, _ => by simp at hl

section
variable {prog : Program} {w : World} {A : Around} {E : Value → Shared → Prop} {s : Shared}
theorem star_list {a : Addr} {vs : List Value} {Q : List Value → Shared → Prop} (hl : s.heap.IsList a vs.toArray) (hz : vs.length ≤ 1000) (k : ∀ h', s.heap.StaysIn h' → Q vs { s with heap := h' }) : StarOf (model prog w) A E (.ref a) Q s := by
  obtain ⟨o, e, c, n, d⟩ := id hl
  have z : wpAny (model prog w) A (collect (.ref a)) Q E s := wpAny_collect_seq a (.inl rfl) e c d (fun h' hk => k h' hk) (by rw [sizeLine_eq]; simp; lia)
  unfold StarOf notIterableAtAll
  exact wpAny_bind (wpAny_specialOf (list_type hl) PySem.F.slot_list_iter.lookup (wpAny_pure ⟨rfl, z⟩))
end
end Mine35
end

-- part Law35
section
set_option maxRecDepth 100000
set_option maxHeartbeats 8000000
set_option linter.unusedVariables false
namespace Mine35
open PySem PySem.W PySem.Calls PyProof.Rows
open PyProof.Rows.LCg (NsObj ns_obj lst lst_snoc)

/-- numbers of the law -/
def Nums (ys : List Value) : Prop := ∀ (i : Nat) (y : Value), ys[i]? = some y → ∃ (n : Int) (u : Tok), y = .int n u ∧ 0 ≤ n ∧ n < 2048

section
variable {prog : Program} {w : World} {A : Around} {E : Value → Shared → Prop} {s : Shared} {h : Heap} {t : Nat}

theorem ints_get : ∀ {vs : List Value} {ns : List Int}, IntsAre vs ns → ∀ {i : Nat} {v : Value}, vs[i]? = some v → ∃ n u, v = .int n u
  | _, _, .nil, i, v, e => by simp at e
  | _, _, .cons n t r, 0, v, e => by cases e; exact ⟨n, t, rfl⟩
  | _, _, .cons n t r, i + 1, v, e => ints_get r (by simpa using e)

theorem Nums.ints : ∀ {ys : List Value}, Nums ys → ∃ ns, IntsAre ys ns
  | [], _ => ⟨[], .nil⟩
  | y :: ys, h => by
    obtain ⟨n, u, rfl, _⟩ := h 0 y rfl
    obtain ⟨ns, r⟩ := Nums.ints (ys := ys) fun i y e => h (i + 1) y (by simpa using e)
    exact ⟨_, .cons n u r⟩

theorem sum_nums {D : Addr} {ys : List Value} {Q : Value → Shared → Prop} (hh : A.handled = none) (hl : h.IsList D ys.toArray) (hN : Nums ys) (k : ∀ n u h' t', h.StaysIn h' → Q (.int n u) (St s h' t')) :
    wpAny (model prog w) A (call (.builtin "sum") [.ref D]) Q E (St s h t) := by
  obtain ⟨ns, hi⟩ := hN.ints
  obtain ⟨xs, hx⟩ := hi.allInts.items
  have hl' : h.IsList D (intItems xs) := hx ▸ hl
  exact sum_intListG (s := St s h t) hh hl' fun h' tk t' hk => k _ _ h' tk hk

theorem signs_of : ∀ {zs : List Value}, (∀ (i : Nat) (y : Value), zs[i]? = some y → ∃ c, c < 256 ∧ Part false y [c]) →
    ∃ (ys : List Str) (cs : List Nat), StrsAre zs ys ∧ All2 (fun (y : Str) c => y.cps.toList = [c]) ys cs ∧ (∀ c ∈ cs, c < 256) ∧ cs.length = zs.length ∧ (ys.map (·.length)).sum = zs.length ∧ ys.length = zs.length
  | [], _ => ⟨[], [], .nil, trivial, by simp, rfl, rfl, rfl⟩
  | z :: zs, h => by
    obtain ⟨c, hc, p⟩ := h 0 z rfl
    obtain ⟨ys, cs, a1, a2, a3, a4, a5, a6⟩ := signs_of (zs := zs) fun i y e => h (i + 1) y (by simpa using e)
    obtain ⟨x, tk, rfl, hx⟩ := p.isS
    refine ⟨x :: ys, c :: cs, .cons x tk a1, ⟨hx, a2⟩, ?_, by simp [a4], ?_, by simp [a6]⟩
    · intro d hd
      rcases List.mem_cons.mp hd with rfl | hd
      · exact hc
      · exact a3 d hd
    · have : x.length = 1 := lenS hx
      rw [List.map_cons, List.sum_cons, a5, this, List.length_cons, Nat.add_comm]

theorem law_spec {l : Addr} {vs : List Value} {ns : List Int} {Q : Value → Shared → Prop} (hw : Wd w h) (hl : h.IsList l vs.toArray) (hi : IntsAre vs ns) (hn : vs.length ≤ 1000) (hh : A.handled = none) (hroom : A.depth + 5 < recursionLimit) (hu : A.units + 50 < cLine)
    (k : ∀ h' t', h.StaysIn h' → Q (.bool true) (St s h' t')) : wpAny (model prog w) A (call (.ref 144) [.ref l]) Q E (St s h t) := by
  refine call_fnC2 (c := Str.ofString "octets") (d := Str.ofString "part") (by decide) hw (f := 144) (binds := [(Str.ofString "script", .ref l)]) rfl rfl (by lia) rfl (fun _ => rfl) (locs rfl) ?_
  intro L h₁ t₁ E' o1 o2 ho1 ho2 s₁
  obtain ⟨m₁, hsc, s₁⟩ : ∃ m₁, m₁ (Str.ofString "script") = some (.ref l) ∧ S h h₁ L m₁ [(L + 1, o1), (L + 2, o2)] := ⟨_, rfl, s₁⟩
  -- numbers
  refine wpAny_execs_cons (as_comp (s := s) (L := L) (m := m₁) (ev_upto (ev_local s₁ hsc (wpAny_Constant_int ⟨l, vs, _, 9, rfl, rfl, isList_mono s₁.keep hl, by lia, fun a₂ h₂ k₂ n₂ e₂ => ?_⟩))))
  obtain ⟨g₂, gk₂, s₂, new₂⟩ := s₁.grow k₂
  refine CompL.of (fun i y g => ∃ (n : Int) (u : Tok), y = .int n u ∧ 0 ≤ n ∧ n < 2048) hh s₂ ⟨_, new₂ _ _ n₂ e₂, rfl, _, rfl⟩ (by rw [sizeLine_eq, List.length_take]; lia) (fun _ _ _ _ _ x => x) ?_ ?_
  · intro i v g' h' t' C m₂ MU E₂ hv gk sE hm hmu
    have hv' : vs[i]? = some v := by
      rw [List.getElem?_take] at hv; split at hv
      · exact hv
      · cases hv
    obtain ⟨n, u, rfl⟩ := ints_get hi hv'
    refine wpAny_BinOp (wpAny_Call_ofName (ev_boot (hw.mono (stays_trans gk₂ (stays_trans gk sE.keep))) rfl rfl (cw_bi (sp1 (ev_local sE hm (call_abs_int fun u tk => wpAny_Constant_int (mod_int' (by decide) ⟨g', h', _, rfl, stays_refl _, sE, _, _, rfl, ?_, ?_⟩)))))))
    · exact Int.fmod_nonneg_of_pos _ (by decide)
    · exact Int.fmod_lt_of_pos _ (by decide)
  intro D g₃ h₃ t₃ ys gk₃ hlen hR _ h₄ t₄ s₄
  have hw₃ : Wd w g₃ := hw.mono (stays_trans gk₂ gk₃)
  -- if len(numbers) < 4
  refine wpAny_execs_cons (wpAny_mono (Q := fun f s' => f = .next ∧ ∃ h₅ t₅ ys₅ n₅ m₅, s' = St s h₅ t₅ ∧ Nums ys₅ ∧ 1 ≤ ys₅.length ∧ ys₅.length ≤ 9 ∧ m₅ (Str.ofString "numbers") = some (.ref D) ∧
    S g₃ h₅ L m₅ ((D, lo ys₅ n₅) :: (L + 1, o1) :: (L + 2, o2) :: [])) ?_ ?_ fun _ _ e => e)
  · have hlt : ys.length ≤ 9 := by rw [hlen, List.length_take]; lia
    refine wpAny_If (wpAny_isTrue_Compare1 (wpAny_Call_ofName (ev_boot (hw₃.mono s₄.keep) rfl rfl (cw_bi (sp1 (ev_local s₄ rfl (len_list ⟨_, s₄.has _ (.head _), rfl, _, rfl⟩ (by simp; lia) (wpAny_Constant_int (PyProof.Rows.lt_int (wpAny_truthy_bool ?_))))))))))
    by_cases h4 : ys.length < 4
    · rw [if_pos (by simp; lia)]
      refine wpAny_execs_cons (wpAny_AugAssign_Name (ld_local s₄ rfl (wpAny_List (wpAny_items_cons (wpAny_Constant_int (wpAny_items_cons (wpAny_Constant_int (wpAny_items_cons (wpAny_Constant_int (wpAny_items_cons (wpAny_Constant_int (wpAny_items_cons (wpAny_Constant_int (wpAny_items_cons (wpAny_Constant_int (wpAny_items_nil ⟨by rw [sizeLine_eq]; exact (by decide : 6 ≤ 16777216), ?_⟩))))))))))))))))
      refine iadd_list (s₄.stays (stays_push _ _)) ⟨_, push_get _ _, rfl, _, rfl⟩ (by simp; lia) fun h₆ n₆ s₆ => st_local s₆ fun h₇ s₇ => wpAny_execs_nil ⟨rfl, _, _, _, _, _, rfl, ?_, ?_, ?_, rfl, s₇⟩
      · intro i y e
        rcases Nat.lt_or_ge i ys.length with hi' | hi'
        · rw [List.getElem?_append_left hi'] at e; exact hR i y e
        · rw [List.getElem?_append_right hi'] at e
          generalize i - ys.length = j at e
          rcases j with _ | _ | _ | _ | _ | _ | j <;> simp at e <;> subst e <;> exact ⟨_, _, rfl, by decide, by decide⟩
      · simp
      · simp; lia
    · rw [if_neg (by simp; lia)]
      exact wpAny_execs_nil ⟨rfl, h₄, _, ys, _, (fun z => if z = Str.ofString "numbers" then some (.ref D) else m₁ z), rfl, hR, by lia, hlt, rfl, s₄⟩
  rintro f s' ⟨rfl, h₅, t₅, ys₅, n₅, m₅, rfl, hN, hl1, hl9, hmN, s₅⟩
  obtain ⟨g₅, gk₅, eD, s₆⟩ := s₅.freeze1
  have hw₅ : Wd w g₅ := hw₃.mono gk₅
  have lD : g₅.IsList D ys₅.toArray := ⟨_, eD, rfl, _, rfl⟩
  clear s₅ hR s₄ s₂ s₁
  -- octets
  refine wpAny_execs_cons (wpAny_Assign_Name (wpAny_Compare1 (wpAny_BinOp (wpAny_Call_ofName (ev_boot (hw₅.mono s₆.keep) rfl rfl (cw_bi (sp1 (ev_local s₆ hmN (sum_nums hh (isList_mono s₆.keep lD) hN fun r u h₇ t₇ k₇ => wpAny_Constant_int (mod_int' (by decide) (wpAny_Constant_int (PyProof.Rows.eq_int ?_)))))))))))) 
  generalize (r.fmod 2 == 1) = b
  have s₇ := s₆.stays k₇
  refine st_cellM [] [(L + 2, o2)] s₇ ho1 fun h₈ oA hoA s₈ => ?_
  simp only [List.nil_append] at s₈
  clear s₇ s₆
  -- text
  refine wpAny_execs_cons (wpAny_Assign_Name (ev_sjoin (Calls.Constant_str ⟨_, _, rfl, by decide, ev_comp (s := s) (L := L) (m := m₅) (ev_local s₈ hmN (CompL.of (fun i y g => ∃ c, c < 256 ∧ Part false y [c]) hh s₈ lD (by rw [sizeLine_eq]; lia) (fun _ _ _ _ _ x => x) ?_ ?_))⟩)))
  · intro i v g' h' t' C m₂ MU E₂ hv gk sE hm hmu
    obtain ⟨n, u, rfl, h0, h1⟩ := hN i v hv
    have hwE := hw₅.mono (stays_trans gk sE.keep)
    refine wpAny_Call_ofName (ev_glob hwE rfl (cw_fn (sp1 (ev_local sE hm ⟨⟨hwE.K _ _ rfl, rfl⟩, law_sign_spec hwE h0 h1 (by show A.depth + 1 + 1 < recursionLimit; lia) fun c r h'' t'' k'' hc hp => ?_⟩))))
    obtain ⟨g'', gk'', s'', _⟩ := sE.grow k''
    exact ⟨g'', h'', t'', rfl, gk'', s'', c, hc, hp⟩
  intro D₂ g₉ h₉ t₉ zs gk₉ hz hZ s₉
  obtain ⟨ts, cs, a1, a2, a3, a4, a5, a6⟩ := signs_of hZ
  refine ⟨D₂, zs, ts, rfl, ⟨_, s₉.has _ (.head _), rfl, _, rfl⟩, a1, by rw [a5, a6]; lia, fun tk kk => ?_⟩
  have hx := join_signs a2
  have hn1 : 1 ≤ cs.length := by lia
  have hn9 : cs.length ≤ 9 := by lia
  refine st_local s₉.forget fun h₁₀ s₁₀ => ?_
  generalize Txt.join (Str.ofString "") ts = x at hx s₁₀
  have hw₉ : Wd w g₉ := hw₅.mono gk₉
  have hoct : ∀ {g h m pre}, S g h L m (pre ++ (L + 1, oA) :: [(L + 2, o2)]) → h.IsCell (L + 1) (some (.bool b)) := fun s' => ⟨oA, s'.has (L + 1, oA) (by simp), hoA⟩
  -- path
  have hw₁₀ := hw₉.mono s₁₀.keep
  refine wpAny_execs_cons (wpAny_Assign_Name (wpAny_Call_ofName (ev_glob hw₁₀ rfl (cw_fn (sp2 (ev_local s₁₀ rfl (ev_cell rfl (hoct (pre := []) s₁₀) ⟨⟨hw₁₀.K _ _ rfl, rfl⟩, law_as_spec (b := b) hw₁₀ (.mkS hx) a3 (by lia) hh (by show A.depth + 1 + 1 < recursionLimit; lia) fun pv h₁₁ t₁₁ k₁₁ hpv => ?_⟩)))))))
  refine st_local (s₁₀.stays k₁₁) fun h₁₂ s₁₂ => ?_
  -- table
  refine wpAny_execs_cons (wpAny_Assign_Name (wpAny_List (wpAny_items_nil ⟨by decide, ?_⟩)))
  have s₁₃ := s₁₂.new (stays_push _ _) (size_none h₁₂) (push_get h₁₂ (lo [] 0))
  generalize h₁₂.objs.size = aT at s₁₃ ⊢
  refine st_local s₁₃ fun h₁₄ s₁₄ => ?_
  have hw₁₄ := hw₉.mono s₁₄.keep
  have hlen : x.length = cs.length := lenS hx
  have dep : ∀ e : Env, (A.deeper e).depth = A.depth + 1 := fun _ => rfl
  refine wpAny_execs_cons (wpAny_mono (Q := fun f s' => f = .next ∧ ∃ g h t m tvs n oB, s' = St s h t ∧ g₉.StaysIn g ∧ All2 (RowsAt b g) tvs (tabL cs cs.length) ∧ m (Str.ofString "table") = some (.ref aT) ∧ m (Str.ofString "text") = some (.str x tk) ∧
    m (Str.ofString "path") = some pv ∧ S g h L m ((aT, lo tvs n) :: (L + 1, oA) :: [(L + 2, oB)])) ?_ ?_ fun _ _ e => e)
  · refine wpAny_For (wpAny_Call_ofName (ev_boot hw₁₄ rfl rfl (cw_ty (sp2 (wpAny_Constant_int (wpAny_BinOp (wpAny_Call_ofName (ev_boot hw₁₄ rfl rfl (cw_bi (sp1 (ev_local s₁₄ rfl (P.len_str (by rw [hlen]; lia) (wpAny_Constant_int (PyProof.Rows.add_int (mk_range2 s₁₄ fun r h₁₅ t₁₅ u₁ u₂ u₃ k₁₅ hr => ?_)))))))))))))))
    have er : ((x.length : Nat) : Int) + 1 = 1 + (cs.length : Int) := by rw [hlen]; lia
    rw [er] at hr
    refine for_range (s := s) (n := cs.length) (fun i g m mu => ∃ tvs n oB, mu = (aT, lo tvs n) :: (L + 1, oA) :: [(L + 2, oB)] ∧ (∃ v0, oB.data = .cell v0) ∧ m (Str.ofString "table") = some (.ref aT) ∧ m (Str.ofString "text") = some (.str x tk) ∧
      m (Str.ofString "path") = some pv ∧ All2 (RowsAt b g) tvs (tabL cs i)) hh hr rsize (rsmall (by decide) (by decide) (by lia)) (s₁₄.stays k₁₅) ⟨[], 0, o2, rfl, ⟨none, ho2⟩, rfl, rfl, rfl, trivial⟩ ?_ ?_
    · rintro k0 tk' g h t m mu I oI E₂ hk0 gk ⟨tvs, n, oB, rfl, ⟨v0, hv0⟩, hT, hX, hP, tAt⟩ sS
      have hwg : Wd w g := hw₉.mono gk
      -- front
      refine wpAny_execs_cons (wpAny_Assign_Name (ev_cut (b := b) (ev_local sS hP (wpAny_evalPart_none (wpAny_evalPart_some (ev_local sS rfl ⟨cs, none, some (1 + (k0 : Int)), hpv, .none, .int _ _, by lia, fun fv h₁ t₁ k₁ hfv => ?_⟩))))))
      have ek : (1 + (k0 : Int)) = ((k0 + 1 : Nat) : Int) := by lia
      rw [ek, cut_to (by lia)] at hfv
      refine st_local (sS.stays k₁) fun h₂ s₂ => ?_
      -- rows
      refine wpAny_execs_cons (wpAny_Assign_Name (wpAny_List (sp1 (ev_list1 (s := s) (ev_local s₂ rfl ⟨g, h₂, _, rfl, s₂, fun a₁ g₃ h₃ gk₃ s₃ e₃ => ⟨sz1 _, ?_⟩⟩)))))
      have s₄ := s₃.new (stays_push _ _) (size_none h₃) (push_get h₃ (lo [.ref a₁] 0))
      generalize h₃.objs.size = aR at s₄ ⊢
      refine st_local s₄ fun h₅ s₅ => ?_
      have hw₅ : Wd w h₅ := hwg.mono (stays_trans gk₃ s₅.keep)
      refine wpAny_execs_cons (wpAny_mono (Q := fun f s' => f = .next ∧ ∃ g' h' t' m' rvs nr oB', s' = St s h' t' ∧ g.StaysIn g' ∧ All2 (RowAt b g') rvs (rowsK cs (tabL cs k0) (k0 + 1)) ∧ m' (Str.ofString "table") = some (.ref aT) ∧ m' (Str.ofString "text") = some (.str x tk) ∧
        m' (Str.ofString "path") = some pv ∧ m' (Str.ofString "rows") = some (.ref aR) ∧ (∃ v0, oB'.data = .cell v0) ∧ S g' h' L m' ((aR, lo rvs nr) :: (I, oI) :: (aT, lo tvs n) :: (L + 1, oA) :: [(L + 2, oB')])) ?_ ?_ fun _ _ e => e)
      · refine wpAny_For (wpAny_Call_ofName (ev_boot hw₅ rfl rfl (cw_ty (sp2 (wpAny_Constant_int (ev_local s₅ rfl (mk_range2 s₅ fun r h₆ t₆ u₁ u₂ u₃ k₆ hr => ?_)))))))
        refine for_range (s := s) (n := k0) (fun i g' m' mu' => ∃ rvs nr oB, mu' = (aR, lo rvs nr) :: (I, oI) :: (aT, lo tvs n) :: (L + 1, oA) :: [(L + 2, oB)] ∧ (∃ v0, oB.data = .cell v0) ∧
          (m' (Str.ofString "table") = some (.ref aT) ∧ m' (Str.ofString "text") = some (.str x tk) ∧ m' (Str.ofString "path") = some pv ∧ m' (Str.ofString "k") = some (.int (1 + (k0 : Int)) tk') ∧ m' (Str.ofString "front") = some fv ∧ m' (Str.ofString "rows") = some (.ref aR)) ∧
          All2 (RowAt b g') rvs (preR cs (tabL cs k0) (k0 + 1) i 0)) hh hr rsize (rsmall (by decide) (by decide) (by lia)) (s₅.stays k₆) ⟨[.ref a₁], 0, oB, rfl, ⟨v0, hv0⟩, ⟨hT, hX, hP, rfl, rfl, rfl⟩, All2.one ⟨a₁, [fv], rfl, ⟨_, e₃, rfl, _, rfl⟩, hfv, trivial⟩⟩ ?_ ?_
        · rintro i0 tk₂ g₆ h₆ t₆ m₆ mu₆ I₂ oI₂ E₃ hi0 gk₆ ⟨rvs, nr, oB₁, rfl, ⟨v1, hv1⟩, ⟨hT₆, hX₆, hP₆, hK₆, hF₆, hR₆⟩, rAt⟩ sI
          have hwg₆ : Wd w g₆ := hwg.mono (stays_trans gk₃ gk₆)
          refine wpAny_execs_cons (wpAny_For (wpAny_Call_ofName (ev_boot (hwg₆.mono sI.keep) rfl rfl (cw_ty (sp1 (ev_local sI hK₆ (mk_range1 sI fun r h₇ t₇ u₁ u₂ u₃ k₇ hr₂ => ?_)))))))
          have e0 : (1 + (k0 : Int)) = 0 + ((k0 + 1 : Nat) : Int) := by lia
          rw [e0] at hr₂
          refine for_range (s := s) (n := k0 + 1) (fun j g' m' mu' => ∃ rvs nr oB, mu' = (I₂, oI₂) :: (aR, lo rvs nr) :: (I, oI) :: (aT, lo tvs n) :: (L + 1, oA) :: [(L + 2, oB)] ∧ (∃ v0, oB.data = .cell v0) ∧
            (m' (Str.ofString "table") = some (.ref aT) ∧ m' (Str.ofString "text") = some (.str x tk) ∧ m' (Str.ofString "path") = some pv ∧ m' (Str.ofString "k") = some (.int (1 + (k0 : Int)) tk') ∧ m' (Str.ofString "front") = some fv ∧ m' (Str.ofString "rows") = some (.ref aR) ∧ m' (Str.ofString "i") = some (.int (1 + (i0 : Int)) tk₂)) ∧
            All2 (RowAt b g') rvs (preR cs (tabL cs k0) (k0 + 1) i0 j)) hh hr₂ rsize (rsmall (by decide) (by decide) (by lia)) (sI.stays k₇) ⟨rvs, nr, oB₁, rfl, ⟨v1, hv1⟩, ⟨hT₆, hX₆, hP₆, hK₆, hF₆, hR₆, rfl⟩, rAt⟩ ?_ ?_
          · clear rAt
            rintro j0 tk₃ g₇ h₇ t₇ m₇ mu₇ I₃ oI₃ E₄ hj0 gk₇ ⟨rvs, nr, oB₂, rfl, ⟨v2, hv2⟩, ⟨hT₇, hX₇, hP₇, hK₇, hF₇, hR₇, hI₇⟩, rAt⟩ sJ
            have hwg₇ : Wd w g₇ := hwg₆.mono gk₇
            have hft : (cs.take (k0 + 1)).length = k0 + 1 := by rw [List.length_take]; lia
            refine wpAny_execs_cons (wpAny_Assign_Name (ev_cut (b := b) (ev_local sJ hF₇ (wpAny_evalPart_some (ev_local sJ rfl (wpAny_evalPart_none ⟨cs.take (k0 + 1), some (0 + (j0 : Int)), none, hfv, .int _ _, .none, by lia, fun pp h₈ t₈ k₈ hpp => ?_⟩))))))
            rw [Int.zero_add, cut_from (by lia)] at hpp
            refine st_cellM [(I₃, oI₃), (I₂, oI₂), (aR, lo rvs nr), (I, oI), (aT, lo tvs n), (L + 1, oA)] [] (sJ.stays k₈) hv2 fun h₉ oC hoC s₉ => ?_
            simp only [List.cons_append, List.nil_append] at s₉
            have fin : ∀ {g' h' : Heap} {t' nr' : Nat} {rvs' : List Value} {m' : Str → Option Value}, g₇.StaysIn g' → S g' h' L m' ((I₃, oI₃) :: (I₂, oI₂) :: (aR, lo rvs' nr') :: (I, oI) :: (aT, lo tvs n) :: (L + 1, oA) :: [(L + 2, oC)]) →
                All2 (RowAt b g') rvs' (preR cs (tabL cs k0) (k0 + 1) i0 j0 ++ blk cs (tabL cs k0) (k0 + 1) (i0 + 1) j0) →
                (m' (Str.ofString "table") = some (.ref aT) ∧ m' (Str.ofString "text") = some (.str x tk) ∧ m' (Str.ofString "path") = some pv ∧ m' (Str.ofString "k") = some (.int (1 + (k0 : Int)) tk') ∧ m' (Str.ofString "front") = some fv ∧ m' (Str.ofString "rows") = some (.ref aR) ∧ m' (Str.ofString "i") = some (.int (1 + (i0 : Int)) tk₂)) →
                ∃ g'' h'' t'' m'' mu'', St s h' t' = St s h'' t'' ∧ g₇.StaysIn g'' ∧ (∃ rvs nr oB, mu'' = (I₂, oI₂) :: (aR, lo rvs nr) :: (I, oI) :: (aT, lo tvs n) :: (L + 1, oA) :: [(L + 2, oB)] ∧ (∃ v0, oB.data = .cell v0) ∧
            (m'' (Str.ofString "table") = some (.ref aT) ∧ m'' (Str.ofString "text") = some (.str x tk) ∧ m'' (Str.ofString "path") = some pv ∧ m'' (Str.ofString "k") = some (.int (1 + (k0 : Int)) tk') ∧ m'' (Str.ofString "front") = some fv ∧ m'' (Str.ofString "rows") = some (.ref aR) ∧ m'' (Str.ofString "i") = some (.int (1 + (i0 : Int)) tk₂)) ∧
            All2 (RowAt b g'') rvs (preR cs (tabL cs k0) (k0 + 1) i0 (j0 + 1))) ∧ S g'' h'' L m'' ((I₃, oI₃) :: mu'') := by
              intro g' h' t' nr' rvs' m' gg ss rr mm
              exact ⟨g', h', t', m', _, rfl, gg, ⟨rvs', nr', oC, rfl, ⟨_, hoC⟩, mm, by rw [preR_step]; exact rr⟩, ss⟩
            have hcell : ∀ {g' h' : Heap} {nr' : Nat} {rvs' : List Value} {m' : Str → Option Value}, S g' h' L m' ((I₃, oI₃) :: (I₂, oI₂) :: (aR, lo rvs' nr') :: (I, oI) :: (aT, lo tvs n) :: (L + 1, oA) :: [(L + 2, oC)]) → h'.IsCell (L + 2) (some pp) := fun s' => ⟨oC, s'.has (L + 2, oC) (by simp), hoC⟩
            have hw₉ := hwg₇.mono s₉.keep
            refine wpAny_execs_cons (wpAny_If (wpAny_isTrue_BoolOp (wpAny_allTrue_And_cons (wpAny_isTrue_Not (wpAny_isTrue_value (wpAny_Call_ofName (ev_glob hw₉ rfl (cw_fn (sp1 (ev_cell rfl (hcell s₉) ⟨⟨hw₉.K _ _ rfl, rfl⟩, isabs_spec hw₉ hpp (by rw [dep]; lia) fun h₁₀ t₁₀ k₁₀ => wpAny_truthy_bool ?_⟩))))))))))
            have s₁₀ := s₉.stays k₁₀
            cases hs : starts ((cs.take (k0 + 1)).drop j0) with
            | true =>
              refine wpAny_execs_nil (wpAny_execs_nil (fin (stays_refl _) s₁₀ ?_ ⟨hT₇, hX₇, hP₇, hK₇, hF₇, hR₇, hI₇⟩))
              have : blk cs (tabL cs k0) (k0 + 1) (i0 + 1) j0 = [] := by unfold blk cond; rw [hs]; rfl
              rw [this, List.append_nil]; exact rAt
            | false =>
            have hw₁₀ := hwg₇.mono s₁₀.keep
            refine wpAny_allTrue_And_cons (wpAny_isTrue_Compare1 (wpAny_Call_ofName (ev_glob hw₁₀ rfl (cw_fnK rfl rfl (sp2 (ev_cut (b := b) (ev_local s₁₀ hF₇ (wpAny_evalPart_none (wpAny_evalPart_some (ev_local s₁₀ hI₇ ⟨cs.take (k0 + 1), none, some (1 + (i0 : Int)), hfv, .none, .int _ _, by lia, fun fr h₁₁ t₁₁ k₁₁ hfr => ?_⟩))))))))))
            have ei : (1 + (i0 : Int)) = ((i0 + 1 : Nat) : Int) := by lia
            rw [ei, cut_to (by lia)] at hfr
            have s₁₁ := s₁₀.stays k₁₁
            have hw₁₁ := hwg₇.mono s₁₁.keep
            refine ev_cell rfl (hcell s₁₁) ⟨hw₁₁, join_spec (b := b) (cs := (cs.take (k0 + 1)).take (i0 + 1)) (dss := [(cs.take (k0 + 1)).drop j0]) hw₁₁ hfr ⟨hpp, trivial⟩ (by rw [List.length_take]; lia) (by intro d hd; rw [List.mem_singleton.mp hd, List.length_drop]; lia) (by simp) hh (by rw [dep]; lia) fun rv h₁₂ t₁₂ k₁₂ hrv => ?_⟩
            have s₁₂ := s₁₁.stays k₁₂
            refine ev_local s₁₂ hF₇ (eq_part hrv hfv (wpAny_truthy_bool ?_))
            show (if (joinStep ((cs.take (k0 + 1)).take (i0 + 1)) ((cs.take (k0 + 1)).drop j0) == cs.take (k0 + 1)) = true then _ else _)
            cases hq : (joinStep ((cs.take (k0 + 1)).take (i0 + 1)) ((cs.take (k0 + 1)).drop j0) == cs.take (k0 + 1)) with
            | false =>
              refine wpAny_execs_nil (wpAny_execs_nil (fin (stays_refl _) s₁₂ ?_ ⟨hT₇, hX₇, hP₇, hK₇, hF₇, hR₇, hI₇⟩))
              have : blk cs (tabL cs k0) (k0 + 1) (i0 + 1) j0 = [] := by unfold blk cond; rw [hs, hq]; rfl
              rw [this, List.append_nil]; exact rAt
            | true =>
            have hblk : blk cs (tabL cs k0) (k0 + 1) (i0 + 1) j0 = ((tabL cs k0).getD i0 []).map fun row => row ++ [(cs.take (k0 + 1)).drop j0] := by unfold blk cond; rw [hs, hq]; rfl
            rw [hblk] at fin
            refine wpAny_allTrue_And_nil ?_
            obtain ⟨tv, htv, tvAt⟩ := tAt.get' (i := i0) (c := (tabL cs k0).getD i0 []) (by rw [List.getD_eq_getElem?_getD, List.getElem?_eq_getElem (by rw [tabL_length]; exact hi0)]; rfl)
            have tvAt' := tvAt.mono (stays_trans gk₃ (stays_trans gk₆ gk₇))
            have hts : ((tabL cs k0).getD i0 []).length ≤ 81 := tab_small (by lia) hn9 hi0
            have hrs : rvs.length ≤ 81 := by
              rw [rAt.length]
              exact Nat.le_trans (preR_len (by lia) (by lia)) (rows_small hk0 hn9)
            refine wpAny_execs_cons (wpAny_AugAssign_Name (ld_local s₁₂ hR₇ (ev_comp (s := s) (L := L) (ev_item (ev_local s₁₂ hT₇ (wpAny_BinOp (ev_local s₁₂ hI₇ (wpAny_Constant_int (PyProof.Rows.sub_int ⟨aT, tvs, i0, _, tv, rfl, congrArg (fun n => Value.int n _) (by lia), ⟨_, s₁₂.has (aT, lo tvs n) (by simp), rfl, _, rfl⟩, htv, by lia,
              CompL.rows (b := b) (b' := b) (fun row => row ++ [(cs.take (k0 + 1)).drop j0]) hh s₁₂ tvAt' (by lia) ?_ ?_⟩)))))))))
            · intro rv₁ row g' h' t' C m₂ MU E₅ hrow hra gk' sE hm hmu
              obtain ⟨a, us, rfl, hl', hp'⟩ := hra
              obtain ⟨rl, rp⟩ := tab_row (by lia) hn9 hi0 row hrow
              refine wpAny_BinOp (ev_local sE hm (ev_list1 (s := s) (L := C) (m := m₂) (mu := MU) (ev_cell rfl ⟨oC, sE.has (L + 2, oC) (hmu _ (by simp)), hoC⟩ ⟨g', h', _, rfl, sE, fun a₂ g₁₃ h₁₃ gk₁₃ s₁₃ e₁₃ => ?_⟩)))
              refine add_list (vs := us) (ws := [pp]) s₁₃ (isList_mono (stays_trans gk₁₃ s₁₃.keep) hl') ⟨_, s₁₃.keep _ _ e₁₃, rfl, _, rfl⟩ (by have := hp'.length; simp; lia) fun a₃ h₁₄ k₁₄ n₁₄ e₁₄ => ?_
              obtain ⟨g₁₄, gk₁₄, s₁₄, new₁₄⟩ := s₁₃.grow k₁₄
              exact ⟨g₁₄, h₁₄, _, rfl, stays_trans gk₁₃ gk₁₄, s₁₄, a₃, _, rfl, ⟨_, new₁₄ _ _ n₁₄ e₁₄, rfl, _, rfl⟩, hp'.snoc hpp⟩
            intro D₃ g₁₃ h₁₃ t₁₃ ys₂ gk₁₃ hys₂ s₁₃
            have hl2 : ys₂.length ≤ 81 := by rw [hys₂.length, List.length_map]; exact hts
            refine iadd_listM [(I₃, oI₃), (I₂, oI₂)] [(I, oI), (aT, lo tvs n), (L + 1, oA), (L + 2, oC)] s₁₃.forget ⟨_, s₁₃.has _ (.head _), rfl, _, rfl⟩ (by lia) fun h₁₄ n₁₄ s₁₄ => st_local s₁₄ fun h₁₅ s₁₅ => ?_
            exact wpAny_execs_nil (wpAny_execs_nil (fin gk₁₃ s₁₅ ((rAt.mono fun _ _ r => r.mono gk₁₃).append hys₂) ⟨hT₇, hX₇, hP₇, hK₇, hF₇, rfl, hI₇⟩))
          · rintro g₈ h₈ t₈ m₈ mu₈ gk₈ ⟨rvs, nr, oB₂, rfl, hB₂, ⟨hT₈, hX₈, hP₈, hK₈, hF₈, hR₈, _⟩, rAt⟩ s₈
            rw [preR_next] at rAt
            exact wpAny_execs_nil (turned s₈ gk₈ ⟨rvs, nr, oB₂, rfl, hB₂, ⟨hT₈, hX₈, hP₈, hK₈, hF₈, hR₈⟩, rAt⟩)
        · rintro g₈ h₈ t₈ m₈ mu₈ gk₈ ⟨rvs, nr, oB₂, rfl, hB₂, ⟨hT₈, hX₈, hP₈, hK₈, hF₈, hR₈⟩, rAt⟩ s₈
          exact ⟨rfl, g₈, h₈, t₈, m₈, rvs, nr, oB₂, rfl, stays_trans gk₃ gk₈, preR_done cs (tabL cs k0) (k0 + 1) ▸ rAt, hT₈, hX₈, hP₈, hR₈, hB₂, s₈⟩
      rintro f s' ⟨rfl, g₆, h₆, t₆, m₆, rvs, nr, oB', rfl, gk₆, rAt, hT₆, hX₆, hP₆, hR₆, hB', s₆⟩
      obtain ⟨g₇, gk₇, eR, s₇⟩ := s₆.freeze1
      refine wpAny_execs_cons (ex_append (ev_local s₇ hT₆ ⟨aT, tvs, n, rfl, s₇.has (aT, lo tvs n) (by simp), ?_, ev_local s₇ hR₆ ⟨s₇.has (aT, lo tvs n) (by simp), fun h₈ sb e₈ => ?_⟩⟩))
      · rw [tAt.length, tabL_length]; lia
      have s₈ := S.updM (pre := [(I, oI)]) s₇ (fun b x hb e => (sb.2 b hb).trans e) e₈
      simp only [List.cons_append, List.nil_append] at s₈
      refine wpAny_execs_nil (turned s₈ (stays_trans gk₆ gk₇) ⟨tvs ++ [.ref aR], n + 1, oB', rfl, hB', hT₆, hX₆, hP₆, ?_⟩)
      show All2 _ _ (tabL cs k0 ++ [rowsK cs (tabL cs k0) (k0 + 1)])
      refine (tAt.mono fun _ _ r => r.mono (stays_trans gk₆ gk₇)).append (All2.one ⟨aR, rvs, rfl, ⟨_, eR, rfl, _, rfl⟩, rAt.mono fun _ _ r => r.mono gk₇⟩)
    · rintro g h t m mu gk ⟨tvs, n, oB, rfl, hB, hT, hX, hP, tAt⟩ sS
      exact ⟨rfl, g, h, t, m, tvs, n, oB, rfl, gk, tAt, hT, hX, hP, sS⟩
  rintro f s' ⟨rfl, gA, hA, tA, mA, tvs, nT, oB, rfl, gkA, tAt, hT, hX, hP, sA⟩
  obtain ⟨gT, gkT, eT, sT⟩ := sA.freeze1
  have hwT : Wd w gT := hw₉.mono (stays_trans gkA gkT)
  have lT : gT.IsList aT tvs.toArray := ⟨_, eT, rfl, _, rfl⟩
  have tAt := tAt.mono fun _ _ r => r.mono gkT
  -- due
  refine wpAny_execs_cons (wpAny_Assign_Name (wpAny_Call_ofName (ev_glob (hwT.mono sT.keep) rfl (cw_fnK rfl rfl (sp1 (ev_local sT hX ⟨hwT.mono sT.keep, law_rows_spec hwT sT hx hn9 hh (by rw [dep]; lia) fun aD dvs gD hD tD gkD sD lD dAt => ?_⟩))))))
  refine st_local sD fun hE sE => ?_
  have hwD : Wd w gD := hwT.mono gkD
  have lT := isList_mono gkD lT
  have tAt := tAt.mono fun _ _ r => r.mono gkD
  have ht : ∀ {k0 : Nat}, k0 < cs.length → ∃ at1 us, tvs[k0]? = some (.ref at1) ∧ gD.IsList at1 us.toArray ∧ All2 (RowAt b gD) us ((tabL cs cs.length).getD k0 []) := by
    intro k0 hk0
    obtain ⟨tv, htv, a, us, rfl, l1, l2⟩ := tAt.get' (i := k0) (c := (tabL cs cs.length).getD k0 []) (by rw [List.getD_eq_getElem?_getD, List.getElem?_eq_getElem (by rw [tabL_length]; exact hk0)]; rfl)
    exact ⟨a, us, htv, l1, l2⟩
  -- the comparing loop
  refine wpAny_execs_cons (wpAny_mono (Q := fun f s' => f = .next ∧ ∃ g h t m, s' = St s h t ∧ gD.StaysIn g ∧ m (Str.ofString "table") = some (.ref aT) ∧ m (Str.ofString "text") = some (.str x tk) ∧ m (Str.ofString "path") = some pv ∧ S g h L m [(L + 1, oA), (L + 2, oB)]) ?_ ?_ fun _ _ e => e)
  · refine wpAny_For (wpAny_Call_ofName (ev_boot (hwD.mono sE.keep) rfl rfl (cw_ty (sp1 (wpAny_Call_ofName (ev_boot (hwD.mono sE.keep) rfl rfl (cw_bi (sp1 (ev_local sE hX (P.len_str (by rw [hlen]; lia) (mk_range1 sE fun r h₆ t₆ u₁ u₂ u₃ k₆ hr => ?_)))))))))))
    have er : ((x.length : Nat) : Int) = 0 + (cs.length : Int) := by rw [hlen]; lia
    rw [er] at hr
    refine for_range (s := s) (n := cs.length) (fun i g m mu => mu = [(L + 1, oA), (L + 2, oB)] ∧ m (Str.ofString "table") = some (.ref aT) ∧ m (Str.ofString "text") = some (.str x tk) ∧ m (Str.ofString "path") = some pv ∧ m (Str.ofString "due") = some (.ref aD))
      hh hr rsize (rsmall (by decide) (by decide) (by lia)) (sE.stays k₆) ⟨rfl, hT, hX, hP, rfl⟩ ?_ ?_
    · rintro k0 tk' g h t m mu I oI E₂ hk0 gk ⟨rfl, hT, hX, hP, hDu⟩ sS
      have hwg : Wd w g := hwD.mono gk
      obtain ⟨dv, hdv, dvAt⟩ := dAt.get' (i := k0) (c := dueR cs (k0 + 1)) (by rw [List.getElem?_map, List.getElem?_range hk0]; rfl)
      have hd81 := dueR_81 cs (k := k0 + 1) (by lia)
      have hlow := due_low a3 (k0 + 1) (by lia)
      have hok := dueR_ok cs (k0 + 1)
      refine wpAny_execs_cons (as_comp (s := s) (L := L) (ev_item (ev_local sS hDu (ev_local sS rfl ⟨aD, dvs, k0, _, dv, rfl, congrArg (fun n => Value.int n _) (by lia), isList_mono (stays_trans gk sS.keep) lD, hdv, by lia,
        CompL.rows (b := false) (b' := b) id hh sS (dvAt.mono gk) (by lia) ?_ ?_⟩))))
      · intro rv₁ row g₁ h₁ t₁ C m₂ MU E₃ hrow hra gk₁ sC hm hmu
        obtain ⟨a, us, rfl, hl', hp'⟩ := hra
        have hlr := hlow row hrow
        obtain ⟨_, rl, rp⟩ := hok row hrow
        refine ev_comp (s := s) (L := C) (m := m₂) (ev_local sC hm (CompL.of (fun i y g => ∃ c, row[i]? = some c ∧ Part b y c) hh sC hl' (by rw [sizeLine_eq, hp'.length]; lia) (fun _ _ _ _ _ x => x) ?_ ?_))
        · intro i v g₂ h₂ t₂ C₂ m₃ MU₂ E₄ hv gk₂ sI hm₃ hmu₂
          obtain ⟨c, hc, pc⟩ := hp'.get hv
          have hmem : c ∈ row := List.mem_of_getElem? hc
          have hwI := hwg.mono (stays_trans gk₁ (stays_trans gk₂ sI.keep))
          refine wpAny_Call_ofName (ev_glob hwI rfl (cw_fnK rfl rfl (sp2 (ev_local sI hm₃ (ev_cell rfl ⟨oA, sI.has (L + 1, oA) (hmu₂ _ (hmu _ (by simp))), hoA⟩ ⟨hwI, law_as_spec (b := b) hwI pc (hlr c hmem) (by have := rp c hmem; lia) hh (by rw [dep]; lia) fun r h₃ t₃ k₃ hr => ?_⟩)))))
          obtain ⟨g₃, gk₃, s₃, _⟩ := sI.grow k₃
          exact ⟨g₃, h₃, t₃, rfl, gk₃, s₃, c, hc, hr⟩
        · intro D₃ g₂ h₂ t₂ ys₂ gk₂ hl₂ hR₂ s₂
          obtain ⟨g₃, gk₃, e₃, s₃⟩ := s₂.freeze1
          exact ⟨g₃, h₂, t₂, rfl, stays_trans gk₂ gk₃, s₃, D₃, ys₂, rfl, ⟨_, e₃, rfl, _, rfl⟩, PartL.of (by rw [hl₂, hp'.length]; rfl) hR₂⟩
      intro Dt g₁ h₁ t₁ zs gk₁ hzs _ h₂ t₂ s₂
      rw [List.map_id] at hzs
      obtain ⟨g₂, gk₂, eDt, s₃⟩ := s₂.freeze1
      have lDt : g₂.IsList Dt zs.toArray := ⟨_, eDt, rfl, _, rfl⟩
      have hzs := hzs.mono fun _ _ r => r.mono gk₂
      have gkk : gD.StaysIn g₂ := stays_trans gk (stays_trans gk₁ gk₂)
      obtain ⟨at1, us, htv, lus, usAt⟩ := ht hk0
      have hus : us.length ≤ 127 := by rw [usAt.length]; exact Nat.le_trans (tab_small (Nat.le_refl _) hn9 hk0) (by decide)
      have hzl : zs.length ≤ 127 := by rw [hzs.length]; lia
      have hw₃ := hwD.mono (stays_trans gkk s₃.keep)
      have usAt₃ : All2 (RowAt b h₂) us ((tabL cs cs.length).getD k0 []) := usAt.mono fun _ _ r => r.mono (stays_trans gkk s₃.keep)
      refine wpAny_execs_cons (wpAny_If (wpAny_isTrue_Compare1 (wpAny_Call_ofName (ev_boot hw₃ rfl rfl (cw_bi (sp1 (ev_item (ev_local s₃ hT (ev_local s₃ rfl ⟨aT, tvs, k0, _, .ref at1, rfl, congrArg (fun n => Value.int n _) (by lia), isList_mono (stays_trans gkk s₃.keep) lT, htv, by lia,
        sorted_rows (b := b) (s := St s h₂ _) (by show A.units + 3 + 5 < cLine; lia) (isList_mono (stays_trans gkk s₃.keep) lus) usAt₃ hus fun a₁ ys₁ h₄ k₄ n₄ l₄ so₄ => ?_⟩)))))))))
      have s₄ := s₃.stays k₄
      have hzs₄ : All2 (RowAt b h₄) zs (dueR cs (k0 + 1)) := hzs.mono fun _ _ r => r.mono s₄.keep
      refine wpAny_Call_ofName (ev_boot (hwD.mono (stays_trans gkk s₄.keep)) rfl rfl (cw_bi (sp1 (ev_local s₄ rfl (sorted_rows (b := b) (s := St s h₄ _) (by show A.units + 3 + 5 < cLine; lia) (isList_mono s₄.keep lDt) hzs₄ hzl fun a₂ ys₂ h₅ k₅ n₅ l₅ so₅ => ?_)))))
      have s₅ := s₄.stays k₅
      have eqr : ys₁.map (rowOf b h₂) = ys₂.map (rowOf b h₄) := sorted_unique (so₄.perm.trans ((tabL_perm (Nat.le_refl _) k0 hk0).trans so₅.perm.symm)) so₄.sort so₅.sort
      have r₁ : All2 (RowAt b h₅) ys₁ (ys₁.map (rowOf b h₂)) := so₄.rws.mono fun _ _ r => r.mono (stays_trans k₄ k₅)
      have r₂ : All2 (RowAt b h₅) ys₂ (ys₁.map (rowOf b h₂)) := by rw [eqr]; exact so₅.rws.mono fun _ _ r => r.mono k₅
      refine ne_rows (b := b) (s := St s h₅ _) (by show A.units + 3 + 5 < cLine; lia) (isList_mono k₅ l₄) l₅ r₁ r₂ (wpAny_truthy_bool ?_)
      exact wpAny_execs_nil (wpAny_execs_nil (turned s₅ (stays_trans gk₁ gk₂) ⟨rfl, hT, hX, hP, hDu⟩))
    · rintro g h t m mu gk ⟨rfl, hT, hX, hP, hDu⟩ sS
      exact ⟨rfl, g, h, t, m, rfl, gk, hT, hX, hP, sS⟩
  rintro f s' ⟨rfl, gF, hF, tF, mF, rfl, gkF, hT, hX, hP, sF⟩
  -- the joining loop
  obtain ⟨at1, us, htv, lus, usAt⟩ := ht (k0 := cs.length - 1) (by lia)
  have htl : tvs.length = cs.length := tAt.length.trans (tabL_length _ _)
  obtain ⟨ts₀, tl, etv⟩ : ∃ a c, tvs = a ++ [c] := ⟨_, _, (List.dropLast_concat_getLast (fun e => by rw [e] at htl; simp at htl; lia)).symm⟩
  have etl : tl = .ref at1 := by
    have h0 : ts₀.length + 1 = cs.length := by rw [← htl, etv]; simp
    rw [etv, List.getElem?_append_right (by lia), show cs.length - 1 - ts₀.length = 0 by lia] at htv
    simpa using htv
  subst etl
  obtain ⟨c0, hc0⟩ : ∃ c0, cs[0]? = some c0 := ⟨_, List.getElem?_eq_getElem (by lia)⟩
  have hst : starts cs = (c0 == 47) := by
    unfold starts; rw [List.head?_eq_getElem?, hc0]; rfl
  refine wpAny_execs_cons (wpAny_For (ev_last (ev_local sF hT (ev_neg1 fun u tN => ⟨aT, ts₀, u, .ref at1, rfl, rfl, etv ▸ isList_mono (stays_trans gkF sF.keep) lT, ?_⟩))))
  refine for_list (s := s) (vs := us) (fun i g m mu => mu = [(L + 1, oA), (L + 2, oB)] ∧ m (Str.ofString "text") = some (.str x tk) ∧ m (Str.ofString "path") = some pv) hh (isList_mono gkF lus) sF ⟨rfl, hX, hP⟩ ?_ ?_
  · rintro i v g₁ h₁ t₁ m₁' mu I oI E₂ hv gk₁ ⟨rfl, hX, hP⟩ sS
    obtain ⟨row, hrow, ra, vs', rfl, lr, pr⟩ := usAt.get hv
    have hmem : row ∈ dueR cs cs.length := by
      have := (tabL_perm (Nat.le_refl cs.length) (cs.length - 1) (by lia)).mem_iff.mp (List.mem_of_getElem? hrow)
      rwa [Nat.sub_add_cancel hn1] at this
    obtain ⟨a, ps, rfl, e1, e2⟩ := dueR_join cs cs.length hn1 (Nat.le_refl _) row hmem
    obtain ⟨_, rl, rp⟩ := dueR_ok cs cs.length _ hmem
    rw [List.take_length] at e1
    obtain ⟨va, vps, rfl⟩ : ∃ va vps, vs' = va :: vps := by
      cases vs' with
      | nil => exact pr.elim
      | cons va vps => exact ⟨va, vps, rfl⟩
    have hwg : Wd w g₁ := hwD.mono (stays_trans gkF gk₁)
    have lr₁ := isList_mono (stays_trans gkF gk₁) lr
    have hwS := hwg.mono sS.keep
    have hvl : (va :: vps).length ≤ 10 := by rw [pr.length]; lia
    refine wpAny_execs_cons (wpAny_If (wpAny_isTrue_BoolOp (wpAny_allTrue_Or_cons (wpAny_isTrue_Compare1 (wpAny_Call_ofName (ev_glob hwS rfl (callWith_S (K := KF w) hwS.K rfl (ev_local sS rfl (star_list (isList_mono sS.keep lr₁) (by lia) fun h₂ k₂ => ⟨(hwS.mono k₂).K, ?_⟩)))))))))
    have s₂ := sS.stays k₂
    refine join_spec (b := b) (hwg.mono s₂.keep) pr.1 pr.2 (by have := rp a (by simp); lia) (fun d hd => by have := rp d (by simp [hd]); lia) (by rw [List.length_cons] at rl; lia) hh (by rw [dep]; lia) fun rv h₃ t₃ k₃ hrv => ?_
    rw [e1] at hrv
    have s₃ := s₂.stays k₃
    refine ev_local s₃ hP (ne_part hrv hpv (wpAny_truthy_bool ?_))
    have ecs : (cs != cs) = false := by simp
    rw [ecs, if_neg Bool.false_ne_true]
    have hw₃' := hwg.mono s₃.keep
    refine wpAny_allTrue_Or_cons (wpAny_isTrue_Compare1 (wpAny_Call_ofName (ev_glob hw₃' rfl (cw_fnK rfl rfl (sp1 (ev_item (ev_local s₃ rfl (wpAny_Constant_int ⟨ra, va :: vps, 0, _, va, rfl, rfl, isList_mono s₃.keep lr₁, rfl, by decide, hw₃', isabs_spec (b := b) hw₃' pr.1 (by rw [dep]; lia) fun h₄ t₄ k₄ => ?_⟩))))))))
    have s₄ := s₃.stays k₄
    refine wpAny_Compare1 (Subscript_ (ev_local s₄ hX (wpAny_Constant_int (subscriptTail_builtin (typeIs_str _ _ _) F.slot_str_getitem.lookup (P.getItem_str (c := c0) (by decide) ?_ (Calls.Constant_str (eq_part (b := false) (cs := [c0]) (ds := [47]) (.mkS rfl) (.mkS rfl) (wpAny_isNot_plain rfl (wpAny_truthy_bool ?_)))))))))
    · have : seqIndex? (0 : Int) x.length = some 0 := by
        unfold seqIndex?; rw [hlen]; simp
        intro e; rw [e] at hn1; simp at hn1
      rw [this]
      show x.cps[0]? = some c0
      rw [← Array.getElem?_toList, hx]; exact hc0
    have e9 : (!(Value.bool (starts a) == Value.bool ([c0] == [47]))) = false := by
      have e3 : ([c0] == [47]) = (c0 == 47) := by rw [Bool.eq_iff_iff]; simp
      rw [e2, hst, e3]; simp
    rw [e9, if_neg Bool.false_ne_true]
    exact wpAny_allTrue_Or_nil (wpAny_execs_nil (wpAny_execs_nil (turned s₄ (stays_refl _) ⟨rfl, hX, hP⟩)))
  · rintro g₁ h₁ t₁ m₁' mu gk₁ ⟨rfl, hX, hP⟩ sS
    refine wpAny_execs_cons (wpAny_Return_some (wpAny_Constant_bool (k _ _ ?_)))
    exact stays_trans gk₂ (stays_trans gk₃ (stays_trans gk₅ (stays_trans gk₉ (stays_trans gkA (stays_trans gkT (stays_trans gkD (stays_trans gkF (stays_trans gk₁ sS.keep))))))))
end
end Mine35
end

-- part FinC
open PySem PySem.W PyProof.Rows
namespace Mine35
theorem ints_len : ∀ {vs : List Value} {ns : List Int}, IntsAre vs ns → vs.length = ns.length
  | _, _, .nil => rfl
  | _, _, .cons n t r => by rw [List.length_cons, List.length_cons, ints_len r]
end Mine35
set_option maxRecDepth 100000 in
set_option maxHeartbeats 8000000 in
theorem PySem.Challenge.cw_pd0035_01_holds : PySem.Challenge.rw_pd0035_01.Holds := by
  refine Mine35.hd ?_
  intro w s₀ s₁ mg mb G Y fa o pm cd doc dV kV ho hd hcd hD hmg hg args vals as hpre hlay hrd hwl hlo
  have KX := kIn_of Y
  refine Ground.open G ?_
  intro T B D TE TW
  have e : mg (Str.ofString "law") = some (.ref 144) := mg_of KX T.g rfl
  have hfa : fa = 144 := by
    have := hmg.symm.trans e
    injection this with this
    injection this
  subst hfa
  clear hD hcd hd hmg e
  wrow_args hpre hlay hrd hwl hlo
  rename_i hI hr hc1 hc2
  refine Mine35.law_spec (s := s₁) (h := s₁.heap) (t := s₁.toks) ⟨KX, T.nolimit, mg, mb, T.g, T.b, T.builtins⟩ (by assumption) hI (by rw [Mine35.ints_len hI]; lia) rfl (by decide) (by decide) fun h' t' k => GoodW.toG ?_
  refine ⟨.inl ⟨_, .bool true, [], rfl, fun cls => ?_, .bool true, ?_, unshared_nil⟩, k, rfl, hg⟩
  · rfl
  · wrow_post
