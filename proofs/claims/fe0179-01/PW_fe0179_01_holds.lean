import PyProof.Rows.All
import Wide.All
import OpenK.AllK
import Wide.FinOn
import PySem.Challenge.RW_fe0179_01
set_option Elab.async false
set_option linter.unusedVariables false
section
open PySem PySem.W PyProof.Rows
set_option maxRecDepth 100000
set_option maxHeartbeats 8000000
namespace Mine
open_top hd for PySem.Challenge.rw_fe0179_01
end Mine
end
section
open PySem PySem.W PySem.Calls PyProof.Rows
set_option maxRecDepth 100000
set_option maxHeartbeats 4000000
namespace Mine
abbrev P0 : Program := PySem.Challenge.pw_fe0179_01
def Sub (g h : Heap) : Prop := ∀ a o, g.get? a = some o → h.get? a = some o
theorem Sub.refl (g : Heap) : Sub g g := fun _ _ e => e
theorem Sub.trans {a b c : Heap} (x : Sub a b) (y : Sub b c) : Sub a c := fun p o e => y p o (x p o e)
structure Gd (w : World) (mg mb : Str → Option Value) (g : Heap) : Prop where
  k : (hd.heap_39 w.params).In g
  ns : g.Ns mainGlobals mg
  nb : g.Ns builtinsNs mb
  bt : ∀ x : Str, x ≠ "__name__" → mb x = bootBuiltins x
  lim : g.NoLimit
theorem Gd.up {w mg mb} {g g' : Heap} (G : Gd w mg mb g) (s : Sub g g') : Gd w mg mb g' :=
  ⟨G.k.keeps s, G.ns.keeps s, G.nb.keeps s, G.bt, G.lim.keeps s⟩
structure Ext (g h g' h' : Heap) : Prop where
  gg : Sub g g'
  gh : Sub g' h'
  hh : Sub h h'
  new : ∀ a : Nat, a < h.objs.size → g'.get? a = g.get? a
  sz : h.objs.size ≤ h'.objs.size
theorem Ext.refl {g h : Heap} (s : Sub g h) : Ext g h g h := ⟨Sub.refl _, s, Sub.refl _, fun _ _ => rfl, Nat.le_refl _⟩
theorem Ext.trans {g h g1 h1 g2 h2 : Heap} (a : Ext g h g1 h1) (b : Ext g1 h1 g2 h2) : Ext g h g2 h2 :=
  ⟨a.gg.trans b.gg, b.gh, a.hh.trans b.hh, fun x e => (b.new x (Nat.lt_of_lt_of_le e a.sz)).trans (a.new x e), Nat.le_trans a.sz b.sz⟩
/-- a frame at L over the entry (g₀, h₀); g: what stands for good -/
structure Fz (g₀ h₀ g h : Heap) (L : Nat) (m : Str → Option Value) : Prop where
  x : Ext g₀ h₀ g h
  ns : h.Ns L m
  own : h₀.objs.size ≤ L
  off : g.get? L = none
theorem Fz.lt {g₀ h₀ g h : Heap} {L : Nat} {m} (F : Fz g₀ h₀ g h L m) : L < h.objs.size := F.ns.lt
theorem Fz.set {g₀ h₀ g h h' : Heap} {L m m'} (F : Fz g₀ h₀ g h L m) (hn : h'.Ns L m') (hs : Heap.SameBut L h h') : Fz g₀ h₀ g h' L m' := by
  refine ⟨⟨F.x.gg, fun a o e => ?_, fun a o e => ?_, F.x.new, ?_⟩, hn, F.own, F.off⟩
  · rw [hs.2 a (fun q => by rw [q, F.off] at e; cases e)]; exact F.x.gh a o e
  · rw [hs.2 a (Nat.ne_of_lt (Nat.lt_of_lt_of_le (Heap.lt_size e) F.own))]; exact F.x.hh a o e
  · rw [hs.1]; exact F.x.sz
theorem Fz.ext {g₀ h₀ g h g' h' : Heap} {L : Nat} {m} (F : Fz g₀ h₀ g h L m) (x : Ext g h g' h') : Fz g₀ h₀ g' h' L m :=
  ⟨F.x.trans x, F.ns.keeps x.hh, F.own, (x.new L F.lt).trans F.off⟩
theorem Fz.keeps {g₀ h₀ g h h' : Heap} {L : Nat} {m} (F : Fz g₀ h₀ g h L m) (x : Sub h h') (sz : h.objs.size ≤ h'.objs.size) : Fz g₀ h₀ g h' L m :=
  F.ext ⟨Sub.refl _, F.x.gh.trans x, x, fun _ _ => rfl, sz⟩
open Classical in
/-- the part of h where p holds -/
noncomputable def only (h : Heap) (p : Addr → Prop) : Heap := ⟨h.objs.mapIdx fun i o => if p i then o else { o with data := .freed }, h.life⟩
theorem only_yes {h : Heap} {p : Addr → Prop} {a : Addr} (hp : p a) : (only h p).get? a = h.get? a := by
  unfold only Heap.get?
  simp only [Array.getElem?_mapIdx]
  cases h.objs[a]? with
  | none => rfl
  | some o => simp [hp]
theorem only_no {h : Heap} {p : Addr → Prop} {a : Addr} (hp : ¬ p a) : (only h p).get? a = none := by
  unfold only Heap.get?
  simp only [Array.getElem?_mapIdx]
  cases h.objs[a]? with
  | none => rfl
  | some o => simp [hp]
theorem Ext.freeze {g₀ h₀ g h : Heap} (x : Ext g₀ h₀ g h) (p : Addr → Prop) (hp : ∀ a : Nat, p a → h₀.objs.size ≤ a) :
    ∃ g', Ext g₀ h₀ g' h ∧ Sub g g' ∧ (∀ a, p a → g'.get? a = h.get? a) ∧ (∀ a, ¬ p a → g'.get? a = g.get? a) := by
  have key : ∀ a, ¬ p a → (only h (fun a => (g.get? a).isSome = true ∨ p a)).get? a = g.get? a := fun a ha => by
    cases e : g.get? a with
    | none => exact only_no (by simp [e, ha])
    | some o => rw [only_yes (.inl (by simp [e]))]; exact x.gh a o e
  refine ⟨only h (fun a => (g.get? a).isSome = true ∨ p a), ⟨fun a o e => ?_, fun a o e => ?_, x.hh, fun a ha => ?_, x.sz⟩, fun a o e => ?_, fun a ha => only_yes (.inr ha), key⟩
  · rw [only_yes (.inl (by simp [x.gg a o e]))]; exact x.gh a o (x.gg a o e)
  · by_cases q : (g.get? a).isSome = true ∨ p a
    · rw [only_yes q] at e; exact e
    · rw [only_no q] at e; cases e
  · rw [key a fun q => Nat.not_lt.mpr (hp a q) ha]; exact x.new a ha
  · rw [only_yes (.inl (by simp [e]))]; exact x.gh a o e
theorem Fz.freeze {g₀ h₀ g h : Heap} {L : Nat} {m} (F : Fz g₀ h₀ g h L m) (p : Addr → Prop) (hp : ∀ a : Nat, p a → h₀.objs.size ≤ a) (hL : ¬ p L) :
    ∃ g', Fz g₀ h₀ g' h L m ∧ Sub g g' ∧ (∀ a, p a → g'.get? a = h.get? a) ∧ (∀ a, ¬ p a → g'.get? a = g.get? a) := by
  obtain ⟨g', x, a, b, c⟩ := F.x.freeze p hp
  exact ⟨g', ⟨x, F.ns, F.own, (c L hL).trans F.off⟩, a, b, c⟩
theorem Fz.fr {g₀ h₀ g h : Heap} {L : Nat} {m} (F : Fz g₀ h₀ g h L m) : Fr h₀ L h m := ⟨F.ns, F.x.hh, F.own⟩
theorem get_size_none {h : Heap} {a : Nat} (ha : h.objs.size ≤ a) : h.get? a = none := by
  cases e : h.get? a with
  | none => rfl
  | some o => exact absurd (Heap.lt_size e) (Nat.not_lt.mpr ha)
theorem Sub.none {g h : Heap} {a : Nat} (s : Sub g h) (ha : h.objs.size ≤ a) : g.get? a = none := by
  cases e : g.get? a with
  | none => rfl
  | some o => exact absurd (Heap.lt_size (s _ _ e)) (Nat.not_lt.mpr ha)
/-- a change at one new place of the frame's own -/
theorem Fz.at {g₀ h₀ g h h' : Heap} {L : Nat} {m} {D : Nat} (F : Fz g₀ h₀ g h L m) (hs : Heap.SameBut D h h') (hD : h₀.objs.size ≤ D) (hn : g.get? D = none) (hL : L ≠ D) : Fz g₀ h₀ g h' L m := by
  refine ⟨⟨F.x.gg, fun b o e => ?_, fun b o e => ?_, F.x.new, ?_⟩, F.ns.sameBut hs hL, F.own, F.off⟩
  · rw [hs.2 b (fun q => by rw [q, hn] at e; cases e)]; exact F.x.gh b o e
  · rw [hs.2 b (Nat.ne_of_lt (Nat.lt_of_lt_of_le (Heap.lt_size e) hD))]; exact F.x.hh b o e
  · rw [hs.1]; exact F.x.sz
section
variable {w : World} {mg mb : Str → Option Value} {A : Around} {E : Value → Shared → Prop} {s : Shared} {g₀ h₀ g : Heap} {L : Nat} {m : Str → Option Value} {env : Env} {x : Str} {pos : Pos} {v : Value}
theorem ldZ {Q : Value → Shared → Prop} (F : Fz g₀ h₀ g s.heap L m) (hv : m x = some v) (h : Q v s)
    (hL : env.locals = L := by rfl) (hk : env.scope.kind = .function := by rfl) (hl : env.kindOf x = some .local := by rfl) (hd : (x == ("__debug__" : Str)) = false := by decide) :
    wpAny (model P0 w) A (eval (.Name x pos) env) Q E s := by
  subst hL; exact wpAny_Name (wpAny_loadName_local hk hl F.ns hv h) hd
theorem nameG {Q : Value → Shared → Prop} (G : Gd w mg mb g) (hg : Sub g s.heap) (e : nsIn (hd.heap_39 w.params) mainGlobals x = some (some v)) (h : Q v s)
    (hG : env.globals = mainGlobals := by rfl) (hk : env.scope.kind = .function := by rfl) (hl : env.kindOf x = some .globalImplicit := by rfl) (hd : (x == ("__debug__" : Str)) = false := by decide) :
    wpAny (model P0 w) A (eval (.Name x pos) env) Q E s :=
  Name_function_global hk hl (loadGlobal_global (by rw [hG]; exact (G.up hg).ns) (mg_of G.k G.ns e) h) hd
theorem nameB {Q : Value → Shared → Prop} (G : Gd w mg mb g) (hg : Sub g s.heap) (e : nsIn (hd.heap_39 w.params) mainGlobals x = some none) (hv : bootBuiltins x = some v) (hn : x ≠ "__name__") (h : Q v s)
    (hG : env.globals = mainGlobals := by rfl) (hB : env.builtins = builtinsNs := by rfl) (hk : env.scope.kind = .function := by rfl) (hl : env.kindOf x = some .globalImplicit := by rfl) (hd : (x == ("__debug__" : Str)) = false := by decide) :
    wpAny (model P0 w) A (eval (.Name x pos) env) Q E s :=
  Name_function_global hk hl (loadGlobal_builtin (by rw [hG]; exact (G.up hg).ns) (mg_none_of G.k G.ns e) (by rw [hB]; exact (G.up hg).nb) ((G.bt x hn).trans hv) h) hd
theorem stZ {Q : Unit → Shared → Prop} (F : Fz g₀ h₀ g s.heap L m)
    (h : ∀ h', Fz g₀ h₀ g h' L (fun y => if y = x then some v else m y) → Heap.SameBut L s.heap h' → Q () { s with heap := h', toks := s.toks + 1 })
    (hL : env.locals = L := by rfl) (hp : (env.scope.kind == .class || (env.scope.kind == .module && env.locals != env.globals)) = false := by rfl) (hl : env.kindOf x = some .local := by rfl) :
    wpAny (model P0 w) A (storeName env x v) Q E s := by
  subst hL; exact wpAny_storeName_local hl F.ns (fun h' hn hs => h h' (F.set hn hs) hs) hp
/-- a call of a plain def of the text -/
theorem callZ {R : Result → Shared → Prop} {f : Addr} {oc : Value} {od : Option Addr} {osl : Array (Option Value)} {name qual : Str} {params : Arguments} {body : List Stmt} {scope : Scope} {cl : List (Str × Addr)} {dV kV doc pm cdv ct : Value} {an : Option Addr} {args : Args} {binds : List (Str × Value)}
    (G : Gd w mg mb g) (hg : Sub g s.heap) (hroom : A.depth < recursionLimit)
    (ho : (hd.heap_39 w.params).lookup f = some ⟨oc, od, .func (fnX name qual params body scope cl dV kV doc pm an cdv ct), osl⟩) (hcd : codeIn (hd.heap_39 w.params) cdv qual = true)
    (hbind : BindsTo s (fnX name qual params body scope cl dV kV doc pm an cdv ct) args binds)
    (hcell : ∀ x ∈ scope.names, x.2 ≠ .cell) (hloc : ∀ x ∈ binds, scope.names.lookup x.1 = some .local)
    (h : ∀ (L : Nat) h₁, Fz g s.heap g h₁ L (fun x => binds.reverse.lookup x) →
      wpAny (model P0 w) (A.deeper (envX qual scope L f cdv cl)) (execs body (envX qual scope L f cdv cl)) (fun fl s' => R (.ok (.ret (match fl with | .ret v => v | _ => .none))) s') (fun _ _ => False)
        { s with heap := h₁, toks := s.toks + binds.length })
    (hco : scope.isCoroutine = false := by rfl) (hgen : scope.isGenerator = false := by rfl) (hk : scope.kind = .function := by rfl) :
    codeAny (model P0 w) A (.call (.ref f) args) R s := by
  have G' := G.up hg
  refine codeAny_call_function hroom (G'.k _ _ ho) rfl hco hgen rfl (codeRec_of G'.k hcd) (hbind _ _ _ _ ?_)
  refine wpAny_newFunctionEnv hcell hloc (fun h₁ hns hsb => ⟨G'.lim.fresh _ hsb, codeAny_func ?_⟩) hk
  have old : Sub s.heap h₁ := fun b o e => hsb.extBut b o (Nat.ne_of_lt (Heap.lt_size e)) (Heap.get?_push_of_some _ e)
  have sz : h₁.objs.size = s.heap.objs.size + 1 := by rw [hsb.1, Heap.size_push]
  refine wpAny_mono (h s.heap.objs.size h₁ ⟨⟨Sub.refl _, hg.trans old, old, fun _ _ => rfl, by omega⟩, hns, Nat.le_refl _, ?_⟩) (fun _ _ y => y) (fun _ _ y => y.elim)
  cases e : g.get? s.heap.objs.size with
  | none => rfl
  | some o => exact absurd (Heap.lt_size (hg _ _ e)) (Nat.lt_irrefl _)
end
theorem fillK : (PySem.Challenge.rw_fe0179_01 = PySem.Challenge.rw_fe0179_01) ∧ (hd.heap_39 = hd.heap_39) := by
  k_fill
  exact ⟨rfl, rfl⟩
section
variable {prog : Program} {w : World} {A : Around} {E : Value → Shared → Prop} {s : Shared} {K : Frag} {C : Addr} {T : String} {v : Value}
theorem isType_K {M : Model} {h : Heap} (X : K.In h) (e1 : isClsIn K C = true) : Looks M h (isType (.ref C)) true := by
  unfold isClsIn clsIn at e1
  split at e1
  · rename_i c' d' cd' sl' ho
    intro A' Q' E' s' k q
    unfold isType loadHead
    exact wpAny_bind (wpAny_loadPart (k _ _ (X _ _ ho)) (wpAny_pure q))
  · cases e1
theorem nested_no {dep : Int} {tk : Tok} {Q : Fin → Shared → Prop} (X : K.In s.heap) (hv : ∀ M, Looks M s.heap (typeOf v) (.type T))
    (e1 : isClsIn K C = true) (e2 : typeIn K (.ref C) = some (.type "type")) (e3 : subIn K (.type T) (.ref C) = some false)
    (hT : ∀ M, Looks M s.heap (isType (.type T)) true)
    (ha : ∀ Q' : Option Value → Shared → Prop, Q' (some (.type T)) { s with toks := s.toks + 1 } → wpAny (model prog w) A (getAttr? v "__class__") Q' E s)
    (h : Q (.done (.ret (.bool false))) { s with toks := s.toks + 1 }) :
    wpAny (model prog w) A (Builtin.«isinstance.nested» ⟨[v, .ref C, .int dep tk], []⟩) Q E s := by
  have hty : Looks (model prog w) s.heap (typeOf (.ref C)) (.type "type") := looks_typeIn X e2
  have his := isType_K (M := model prog w) X e1
  have hsub : Looks (model prog w) s.heap (isSubtype (.type T) (.ref C)) false := looks_subIn X e3
  have L0 := hv (model prog w)
  have L9 := hT (model prog w)
  obtain ⟨h0, g, d, tt, os⟩ := s
  have LI : Looks (model prog w) h0 (isInstance v (.ref C)) false := L0.andThen hsub
  unfold Builtin.«isinstance.nested»
  refine wpAny_bind (L0.at ?_)
  rw [if_neg (fun q => by cases beq_iff_eq.mp q)]
  refine wpAny_bind (hty.at ?_)
  rw [if_pos (by decide)]
  k_delta "plainIsInstance"
  refine wpAny_bind (wpAny_bind (his.at ?_))
  simp only [Bool.not_true, Bool.false_eq_true, if_false]
  refine wpAny_bind (LI.at ?_)
  simp only [Bool.false_eq_true, if_false]
  refine wpAny_bind (ha _ ?_)
  refine wpAny_bind (L9.at ?_)
  simp only [Bool.not_true, Bool.false_eq_true, if_false]
  refine wpAny_bind (wpAny_rule ?_)
  refine hsub.at ?_
  first
    | exact wpAny_pure h
    | exact wpAny_pure (wpAny_pure h)
    | exact wpAny_bind (wpAny_pure (wpAny_pure h))
theorem typeOf_at {M : Model} {h : Heap} {a : Addr} {o : Obj} {c : Value} (hx : h.get? a = some o) (hc : o.cls = c) : Looks M h (typeOf (.ref a)) c := by
  subst hc; exact (Looks.ld hx).andThen .now
theorem isType_type {M : Model} {h : Heap} : Looks M h (isType (.type T)) true := Looks.of_pure rfl
theorem isinst_no_int {n : Int} {u : Tok} {Q : Value → Shared → Prop} (X : K.In s.heap) (e1 : isClsIn K C = true) (e2 : typeIn K (.ref C) = some (.type "type")) (e3 : subIn K (.type "int") (.ref C) = some false)
    (h : Q (.bool false) { s with toks := s.toks + 1 }) : wpAny (model prog w) A (call (.builtin "isinstance") [.int n u, .ref C]) Q E s :=
  call_isinstance (S := fun _ R s => K.In s.heap ∧ R (.ok (.ret (.bool false))) { s with toks := s.toks + 1 })
    (fun _ _ _ _ s hs => by
      refine isinstance_outer (nested_no (T := "int") hs.1 (fun M => Looks.of_pure rfl) e1 e2 e3 (fun M => isType_type) (fun Q' hq => ?_) hs.2) (by intro q; cases q)
      obtain ⟨h0, g, d, tt, os⟩ := s
      exact class_attr_int hq) ⟨X, h⟩
theorem isinst_no_bool {n : Bool} {Q : Value → Shared → Prop} (X : K.In s.heap) (e1 : isClsIn K C = true) (e2 : typeIn K (.ref C) = some (.type "type")) (e3 : subIn K (.type "bool") (.ref C) = some false)
    (h : Q (.bool false) { s with toks := s.toks + 1 }) : wpAny (model prog w) A (call (.builtin "isinstance") [.bool n, .ref C]) Q E s :=
  call_isinstance (S := fun _ R s => K.In s.heap ∧ R (.ok (.ret (.bool false))) { s with toks := s.toks + 1 })
    (fun _ _ _ _ s hs => by
      refine isinstance_outer (nested_no (T := "bool") hs.1 (fun M => Looks.of_pure rfl) e1 e2 e3 (fun M => isType_type) (fun Q' hq => ?_) hs.2) (by intro q; cases q)
      obtain ⟨h0, g, d, tt, os⟩ := s
      exact class_attr_bool hq) ⟨X, h⟩
theorem isinst_no_dict {a : Addr} {o : Obj} {Q : Value → Shared → Prop} (X : K.In s.heap) (hx : s.heap.get? a = some o) (hc : o.cls = .type "dict") (e1 : isClsIn K C = true) (e2 : typeIn K (.ref C) = some (.type "type")) (e3 : subIn K (.type "dict") (.ref C) = some false)
    (h : Q (.bool false) { s with toks := s.toks + 1 }) : wpAny (model prog w) A (call (.builtin "isinstance") [.ref a, .ref C]) Q E s :=
  call_isinstance (S := fun _ R s => (K.In s.heap ∧ s.heap.get? a = some o) ∧ R (.ok (.ret (.bool false))) { s with toks := s.toks + 1 })
    (fun _ _ _ _ s hs => by
      refine isinstance_outer (nested_no (T := "dict") hs.1.1 (fun M => typeOf_at hs.1.2 hc) e1 e2 e3 (fun M => isType_type) (fun Q' hq => ?_) hs.2) (by intro q; cases q)
      obtain ⟨h0, g, d, tt, os⟩ := s
      exact class_attr_dict hs.1.2 hc hq) ⟨⟨X, hx⟩, h⟩
end
/-- a part of a table: a variable or a number -/
inductive Part where
  | num (i : Int)
  | var (t : Nat)
  deriving DecidableEq
/-- the object of a variable -/
structure IsVar (g : Heap) (a : Addr) (t : Nat) : Prop where
  mk ::
  at_ : ∃ da hs tk tk' n, g.get? a = some (instObj 185 da) ∧ g.get? da = some (dictOf [⟨hs, .str "token" tk, .int t tk'⟩] n)
theorem IsVar.up {g g' : Heap} {a t} (x : IsVar g a t) (s : Sub g g') : IsVar g' a t := by
  obtain ⟨da, hs, tk, tk', n, h1, h2⟩ := x.at_
  exact ⟨da, hs, tk, tk', n, s _ _ h1, s _ _ h2⟩
inductive IsPart (g : Heap) : Value → Part → Prop
  | num (i : Int) (tk : Tok) : IsPart g (.int i tk) (.num i)
  | var {a : Addr} {t : Nat} : IsVar g a t → IsPart g (.ref a) (.var t)
theorem IsPart.up {g g' : Heap} {v p} (x : IsPart g v p) (s : Sub g g') : IsPart g' v p := by
  cases x with
  | num i tk => exact .num i tk
  | var h => exact .var (h.up s)
theorem IsVar.inst {g : Heap} {a t} (x : IsVar g a t) : ∃ ox od : Obj, InstAt g a ox 185 (some od) := by
  obtain ⟨da, hs, tk, tk', n, h1, h2⟩ := x.at_
  exact ⟨_, _, h1, rfl, rfl, h2⟩
section
variable {w : World} {mg mb : Str → Option Value} {A : Around} {E : Value → Shared → Prop} {s : Shared} {g : Heap}
def Part.isVar : Part → Bool
  | .var _ => true
  | .num _ => false
theorem isVar_call {v : Value} {p : Part} {Q : Value → Shared → Prop} (X : (hd.heap_39 w.params).In s.heap) (hp : IsPart s.heap v p)
    (h : ∀ tk, Q (.bool p.isVar) { s with toks := tk }) : wpAny (model P0 w) A (call (.builtin "isinstance") [v, .ref 185]) Q E s := by
  cases hp with
  | num i tk => exact isinst_no_int X (by k_is) (by k_is) (by k_is) (h _)
  | var hv =>
    obtain ⟨ox, od, I⟩ := hv.inst
    exact isi_call X (fun M => I.type) (by k_is) (by intro e; cases e) (h _)
theorem isvar_spec {v : Value} {p : Part} {Q : Value → Shared → Prop} (G : Gd w mg mb g) (hg : Sub g s.heap) (hroom : A.depth < recursionLimit) (hp : IsPart g v p)
    (h : ∀ h' tk, Ext g s.heap g h' → Q (.bool p.isVar) { s with heap := h', toks := tk }) :
    wpAny (model P0 w) A (call (.ref 197) [v] []) Q E s := by
  refine wpAny_call ?_
  refine callZ G hg hroom (binds := [("o", v)]) (by k_is) (by k_is) (BindsTo.of_eq rfl) (by decide) (locs rfl) (fun L h₁ F => ?_)
  dsimp only
  refine wpAny_execs_cons (wpAny_Return_some ?_)
  refine Call_Name rfl ?_
  refine nameB G F.x.gh (by k_is) (by boot_fast) (by decide) ?_
  refine callWith_builtin rfl ?_
  refine evalArgs_plain (spliced_more (ldZ F rfl (spliced_more (nameG G F.x.gh (by k_is) (spliced_none ?_)))))
  refine isVar_call (G.k.keeps F.x.gh) (hp.up F.x.gh) (fun tk => ?_)
  exact h _ _ F.x
end
end Mine
end
section
open PySem PySem.W PySem.Calls PyProof.Rows
set_option maxRecDepth 100000
set_option maxHeartbeats 4000000
namespace Mine
/-- a tree run on the written part: looks, new tokens, new objects -/
def ev {α : Type} (K : Frag) (M : Model) (A : Around) (Q : α → Shared → Prop) (E : Value → Shared → Prop) : Sem α → Shared → Prop
  | .pure a, s => Q a s
  | .raise e, s => E e s
  | .rule _ k, s => ev K M A Q E (k ()) s
  | .at _ k, s => ev K M A Q E (k ()) s
  | .point _ k, s => ev K M A Q E (k ()) s
  | .ask k, s => ev K M A Q E (k ⟨M.prog, M.w.params⟩) s
  | .fresh k, s => ev K M A Q E (k s.toks) { s with toks := s.toks + 1 }
  | .alloc o k, s => ev K M A Q E (k s.heap.objs.size) { s with heap := s.heap.push o }
  | .load a p k, s => match K.lookup a with
    | some o => ev K M A Q E (k o) s
    | none => wpAny M A (.load a p k) Q E s
  | t, s => wpAny M A t Q E s
theorem ev_sound {α : Type} {K : Frag} {M : Model} {A : Around} {Q : α → Shared → Prop} {E : Value → Shared → Prop} : ∀ (t : Sem α) {s : Shared}, K.In s.heap → ev K M A Q E t s → wpAny M A t Q E s
  | .pure a, s, _, h => wpAny_pure h
  | .raise e, s, _, h => wpAny_throw h
  | .rule _ k, s, X, h => nd_rule (ev_sound (k ()) X h)
  | .at p k, s, X, h => wpAny_bind (m := standAt p) (f := k) (wpAny_standAt (ev_sound (k ()) X h))
  | .point _ k, s, X, h => nd_point (ev_sound (k ()) X h)
  | .ask k, s, X, h => nd_ask (ev_sound _ X h)
  | .fresh k, s, X, h => nd_fresh (ev_sound _ X h)
  | .alloc o k, s, X, h => nd_alloc (ev_sound _ (X.keeps fun _ _ e => Heap.get?_push_of_some _ e) h)
  | .load a p k, s, X, h => by
    unfold ev at h
    split at h
    · rename_i o ho
      exact nd_load (X _ _ ho) (ev_sound _ X h)
    · exact h
  | .unsupported _, _, _, h | .finish _, _, _, h | .update .., _, _, h | .loadIfAlive .., _, _, h | .register .., _, _, h | .choose .., _, _, h | .os .., _, _, h | .call .., _, _, h | .handled .., _, _, h | .newGen .., _, _, h | .genState .., _, _, h | .resume .., _, _, h | .yield .., _, _, h | .stack .., _, _, h | .fork .., _, _, h | .thread .., _, _, h | .await .., _, _, h => h
theorem ev_to {α : Type} {K : Frag} {M : Model} {A : Around} {Q : α → Shared → Prop} {E : Value → Shared → Prop} {t : Sem α} {s : Shared} {P : Prop} (X : K.In s.heap) (h : P) (e : ev K M A Q E t s = P) : wpAny M A t Q E s :=
  ev_sound t X (e ▸ h)
section
variable {w : World} {A : Around} {R : Result → Shared → Prop} {h : Heap} {g : Array GenState} {d : Drawn} {t : Nat} {os : OsState}
theorem onew_Var (X : (hd.heap_39 w.params).In h)
    (hq : R (.ok (.ret (.ref (h.objs.size + 1)))) ⟨(h.push emptyDict).push (instObj 185 h.objs.size), g, d, t, os⟩) :
    codeAny (model P0 w) A (.call (.builtin "object.__new__") ⟨[.ref 185], []⟩) R ⟨h, g, d, t, os⟩ := by
  have F := PySem.F.objNew
  refine codeAny_call_builtin_code (Code.quiet_builtin _ F.quiet) ?_
  refine (Looks.of_peek X (r := ()) (by kernel_rfl)).at ?_
  refine codeAny_builtin F.entry ?_
  rw [← Heap.size_push h emptyDict] at hq
  refine ev_to (K := hd.heap_39 w.params) (P := R (.ok (.ret (.ref ((h.push emptyDict).objs.size)))) ⟨(h.push emptyDict).push (instObj 185 h.objs.size), g, d, t, os⟩) X hq (by kernel_rfl)
end
end Mine
end
section
open PySem PySem.W PySem.Calls PyProof.Rows
set_option maxRecDepth 100000
set_option maxHeartbeats 4000000
namespace Mine
def Hold (P : Prop) : Prop := P
theorem Hold.out {P : Prop} (h : Hold P) : P := h
section
variable {w : World} {A : Around} {R : Result → Shared → Prop} {s : Shared}
theorem getnew_Var {Q : Value → Shared → Prop} {E : Value → Shared → Prop} (X : (hd.heap_39 w.params).In s.heap) (h : ∀ tk, Q (.ref 161) { s with toks := tk }) :
    wpAny (model P0 w) A (getAttr (.ref 185) "__new__") Q E s :=
  cls_bind (g := .builtin "staticmethod.__get__") (a := .ref 186) (obj := .none) (tp := .ref 185) X (mc := .type "type") (by k_is) (by kernel_rfl)
    (wpAny_call (sm_get (s := { s with toks := s.toks + 1 }) X (f := .ref 161) (rest := []) (by k_is) (handed_on rfl (h _))))
theorem var_call {k : Int} {tk : Tok} (X : (hd.heap_39 w.params).In s.heap)
    (hn : ∀ tk', wpAny (model P0 w) (A.under (.builtin "type.__call__" ⟨[.ref 185, .int k tk], []⟩)) (call (.ref 161) [.ref 185, .int k tk] []) (fun v s' => ∃ a da od, v = .ref a ∧ (hd.heap_39 w.params).In s'.heap ∧ s'.heap.get? a = some (instObj 185 da) ∧ s'.heap.get? da = some od ∧ R (.ok (.ret v)) s')
      (fun e s' => R (.error e) s') { s with toks := tk' }) :
    codeAny (model P0 w) A (.call (.ref 185) ⟨[.int k tk], []⟩) R s := by
  refine codeAny_of_tree ?_
  refine ev_to (K := hd.heap_39 w.params) (P := ((Code.call (.builtin "type.__call__") ⟨[.ref 185, .int k tk], []⟩).quiet = true ∧ codeAny (model P0 w) A (.call (.builtin "type.__call__") ⟨[.ref 185, .int k tk], []⟩) R s)) X ⟨rfl, ?_⟩ (by kernel_rfl)
  refine codeAny_call_builtin_at (Code.quiet_builtin _ (by decide +kernel)) entry_typeCall ?_
  refine (Looks.of_peek X (r := ()) (by kernel_rfl)).here ?_
  have L1 : Looks (model P0 w) s.heap (mroOf (.ref 185)) [.ref 185, .type "object"] := Looks.of_peek X (by kernel_rfl)
  have L2 : Looks (model P0 w) s.heap (Bind.madeBy (.ref 185)) none := Looks.of_peek X (by kernel_rfl)
  unfold Builtin.«type.__call__»
  obtain ⟨h0, g0, d0, t0, os0⟩ := s
  repeat (first | simp only [List.isEmpty_cons, Bool.false_eq_true, if_false] | (with_reducible refine wpAny_bind (getnew_Var X fun tk' => ?_)) | (with_reducible refine wpAny_bind (wpAny_holding (wpAny_mono (hn _) (fun v s' hv => Hold.out ?_) (fun _ _ z => z)))) | lk)
  unfold Hold
  obtain ⟨a, da, od, rfl, X', h1, h2, h3⟩ := hv
  have I : InstAt s'.heap a (instObj 185 da) 185 (some od) := ⟨h1, rfl, rfl, h2⟩
  have L3 : Looks (model P0 w) s'.heap (isInstance (.ref a) (.ref 185)) true := I.type.andThen (looks_subIn X' (by k_is))
  refine wpAny_bind (L3.here ?_)
  simp only [Bool.not_true, Bool.false_eq_true, if_false]
  refine wpAny_bind (wpAny_holding (wpAny_bind (wpAny_bind (I.type.here ((looks_findIn X' (r := some (.builtin "object.__init__")) (by k_is)).here (wpAny_holding (wpAny_bind ?_)))))))
  have L5 : Looks (model P0 w) s'.heap (isInstance (.ref a) (.type "object")) true := I.type.andThen (looks_subIn X' (by k_is))
  refine (Looks.of_pure (oi_bind _)).here (wpAny_bind (wpAny_call ?_))
  refine codeAny_call_builtin oi_plain entry_oi (@check_slot (model P0 w) _ _ _ "object.__init__" "object" "__init__" (.ref a) [.int k tk] [] _ oi_kind oi_split L5 (by unfold argsOk; kernel_rfl) ?_)
  have L6 : Looks (model P0 w) s'.heap (typeLookup (.ref 185) "__init__") (some (.builtin "object.__init__")) := looks_findIn X' (by k_is)
  have L7 : Looks (model P0 w) s'.heap (Bind.madeBy (.ref 185)) none := Looks.of_peek X' (by kernel_rfl)
  have L8 := I.type (M := model P0 w)
  unfold Builtin.«object.__init__»
  refine wpAny_bind (L8.here (wpAny_bind (L6.here (wpAny_bind (L7.here ?_)))))
  exact wpAny_pure (wpAny_pure (wpAny_pure h3))
end
end Mine
end
section
open PySem PySem.W PySem.Calls PyProof.Rows
set_option maxRecDepth 100000
set_option maxHeartbeats 4000000
namespace Mine
section
variable {w : World} {mg mb : Str → Option Value} {A : Around} {E : Value → Shared → Prop} {s : Shared} {g : Heap}
theorem getnew_object {pl : Sem Bool} {Q : Value × List Value → Shared → Prop} (X : (hd.heap_39 w.params).In s.heap) (h : Q (.builtin "object.__new__", []) { s with toks := s.toks + 1 }) :
    wpAny (model P0 w) A (getMethod (.type "object") "__new__" pl) Q E s := by
  have hstub : opaqueClassAbove (.type "object") = pure none := by unfold opaqueClassAbove; dsimp only; rw [show Manifest.isStub "object" = false by decide +kernel]; rfl
  have ht : typeOf (.type "object") = pure (.type "type") := by first | rfl | kernel_rfl
  have L0 : Looks (model P0 w) s.heap (typeOf (.type "object")) (.type "type") := Looks.of_pure ht
  have hg : findIn (hd.heap_39 w.params) (.type "type") "__getattribute__" = some (some (.builtin "type.__getattribute__")) := by k_is
  unfold getMethod specialOf
  refine wpAny_bind (wpAny_bind (L0.here ((looks_findIn X hg).here ?_)))
  dsimp only
  rw [if_pos canon_tga]
  refine wpAny_bind (wpAny_mono (Q := fun v => Q (v, [])) (E := E) ?_ (fun _ _ z => wpAny_pure z) fun _ _ z => z)
  have LO : Looks (model P0 w) s.heap (opaqueClassAbove (.type "object")) none := Looks.of_pure hstub
  refine cls_open (r := .val (.builtin "object.__new__")) X LO L0 hg (looks_hook X (r := none) (by rfl)) (by show subIn _ _ _ = _; rfl) (by kernel_rfl) ?_
  exact wpAny_pure (handed_on rfl h)
theorem new_spec {k : Int} {tk : Tok} {Q : Value → Shared → Prop} (G : Gd w mg mb g) (hg : Sub g s.heap) (hroom : A.depth < recursionLimit)
    (h : ∀ g' h' tk', Ext g s.heap g' h' → ∀ a da hs tk1 tk2 n, g'.get? a = some (instObj 185 da) → g'.get? da = some (dictOf [⟨hs, .str "token" tk1, .int k tk2⟩] n) → Q (.ref a) { s with heap := h', toks := tk' }) :
    wpAny (model P0 w) A (call (.ref 161) [.ref 185, .int k tk] []) Q E s := by
  refine wpAny_call ?_
  have X := G.k.keeps hg
  refine callZ G hg hroom (binds := [("cls", .ref 185), ("token", .int k tk), ("prefix", .str "" 381)]) (by k_is) (by k_is) (binds_K X rfl (by k_is) rfl rfl rfl) (by decide) (locs rfl) (fun L h₁ F => ?_)
  dsimp only
  refine wpAny_execs_cons (wpAny_Assign_Name ?_)
  refine methodCall_KW ?_
  refine nameB G F.x.gh (by k_is) (by boot_fast) (by decide) ?_
  refine getnew_object (pl := pure false) (G.k.keeps F.x.gh) ?_
  refine callWith_builtin rfl (evalArgs_plain (spliced_more (ldZ F rfl (spliced_none ?_))))
  refine wpAny_call (onew_Var (G.k.keeps F.x.gh) ?_)
  dsimp only
  have sz1 : (h₁.push emptyDict).objs.size = h₁.objs.size + 1 := Heap.size_push ..
  have sz2 : ((h₁.push emptyDict).push (instObj 185 h₁.objs.size)).objs.size = h₁.objs.size + 2 := by rw [Heap.size_push, sz1]
  have k2 : Sub h₁ ((h₁.push emptyDict).push (instObj 185 h₁.objs.size)) := fun a o e => Heap.get?_push_of_some _ (Heap.get?_push_of_some _ e)
  have F2 := F.keeps k2 (by omega)
  have d1 : ((h₁.push emptyDict).push (instObj 185 h₁.objs.size)).get? h₁.objs.size = some emptyDict := Heap.get?_push_of_some _ (Heap.get?_push_size _ rfl)
  have d2 : ((h₁.push emptyDict).push (instObj 185 h₁.objs.size)).get? (h₁.objs.size + 1) = some (instObj 185 h₁.objs.size) := by rw [← sz1]; exact Heap.get?_push_size _ rfl
  generalize (h₁.push emptyDict).push (instObj 185 h₁.objs.size) = h₂ at *
  have hLs := F.lt
  refine stZ F2 (fun h₃ F3 sb3 => ?_)
  dsimp only
  refine wpAny_execs_cons (plainObj_wpAny_Assign_Attribute ?_)
  refine ldZ F3 rfl (ldZ F3 rfl ?_)
  have dd : h₃.get? h₁.objs.size = some (dictOf [] 0) := (sb3.2 _ (neN (by omega))).trans d1
  have di : h₃.get? (h₁.objs.size + 1) = some (instObj 185 h₁.objs.size) := (sb3.2 _ (neN (by omega))).trans d2
  have sz3 : h₃.objs.size = h₂.objs.size := sb3.1
  have hs0 := F.x.sz
  have N : News s.heap L h₃ [(h₁.objs.size + 1, instObj 185 h₁.objs.size), (h₁.objs.size, dictOf [] 0)] := by
    intro p hp
    simp only [List.mem_cons, List.mem_nil_iff, or_false] at hp
    rcases hp with rfl | rfl
    · exact ⟨di, neN (by omega), get_size_none (by omega)⟩
    · exact ⟨dd, neN (by omega), get_size_none (by omega)⟩
  refine set_dict (K := hd.heap_39 w.params) (es := []) (n := 0) (es' := [⟨PyData.keyHash w.params "token", .str "token" _, .int k tk⟩]) (n' := 1) F3.fr X N (⟨di, rfl, rfl, dd⟩ : W.InstAt h₃ _ _ 185 (some (dictOf [] 0))) rfl (by k_is) (by k_is) (by k_is) (by k_is) rfl rfl (.tail (neN (by omega)) (.head fun _ h => nomatch h)) (Nat.le_of_ble_eq_true rfl) (fun h₄ F4 N4 => ?_)
  dsimp only
  have e1 := (N4 _ (.head _)).1
  have e2 := (N4 _ (.tail _ (.head _))).1
  dsimp only at e1 e2
  have lt1 : h₁.objs.size + 1 < h₄.objs.size := Heap.lt_size e1
  have F5 : Fz g s.heap g h₄ L _ := ⟨⟨Sub.refl g, hg.trans F4.keep, F4.keep, fun _ _ => rfl, by omega⟩, F4.ns, F4.above, F.off⟩
  refine wpAny_execs_cons (wpAny_Return_some (ldZ F5 rfl ?_))
  dsimp only
  obtain ⟨g', F6, sub, yes, -⟩ := F5.freeze (fun a => a = h₁.objs.size ∨ a = h₁.objs.size + 1) (fun a ha => by rcases ha with rfl | rfl <;> omega) (fun q => by rcases q with q | q <;> (have q' : @Eq Nat L _ := q; omega))
  exact h g' h₄ _ F6.x _ _ _ _ _ _ ((yes _ (.inr rfl)).trans e1) ((yes _ (.inl rfl)).trans e2)
end
end Mine
end
section
open PySem PySem.W PySem.Calls PyProof.Rows
set_option maxRecDepth 100000
set_option maxHeartbeats 4000000
namespace Mine
def toPart (k : Int) : Part := if k < 3 then .var k.toNat else .num (k - 3)
section
variable {w : World} {mg mb : Str → Option Value} {A : Around} {E : Value → Shared → Prop} {s : Shared} {g : Heap}
theorem part_spec {k : Int} {tk : Tok} {Q : Value → Shared → Prop} (G : Gd w mg mb g) (hg : Sub g s.heap) (hroom : A.depth + 3 < recursionLimit) (h0 : 0 ≤ k)
    (h : ∀ g' h' tk' v, Ext g s.heap g' h' → IsPart g' v (toPart k) → Q v { s with heap := h', toks := tk' }) :
    wpAny (model P0 w) A (call (.ref 268) [.int k tk] []) Q E s := by
  refine wpAny_call ?_
  have X := G.k.keeps hg
  refine callZ G hg (by omega) (binds := [("k", .int k tk)]) (by k_is) (by k_is) (BindsTo.of_eq rfl) (by decide) (locs rfl) (fun L h₁ F => ?_)
  dsimp only
  refine wpAny_execs_cons (wpAny_Return_some (wpAny_IfExp (wpAny_isTrue_Compare1 (ldZ F rfl (wpAny_Constant_int (lt_int (wpAny_truthy_bool ?_)))))))
  by_cases hk : k < 3
  · simp only [hk, decide_true, if_true]
    refine Call_Name rfl (nameG G F.x.gh (by k_is) ?_)
    refine callWith_K G.k (by k_is) (spliced_more (ldZ F rfl (spliced_none ?_)))
    refine ⟨G.k.keeps F.x.gh, ?_⟩
    dsimp only [List.nil_append]
    refine wpAny_call (var_call (G.k.keeps F.x.gh) (fun tk' => ?_))
    refine new_spec G F.x.gh ?_ (fun g' h' tk'' x a da hs tk1 tk2 n e1 e2 => ?_)
    · rw [depth_under_make, depth_deeper]; omega
    · have F' := F.ext x
      refine ⟨a, da, _, rfl, (G.up F'.x.gg).k.keeps F'.x.gh, F'.x.gh _ _ e1, F'.x.gh _ _ e2, ?_⟩
      refine h _ _ _ _ F'.x ?_
      rw [toPart, if_pos hk]
      refine .var ⟨da, hs, tk1, tk2, n, e1, ?_⟩
      rw [Int.toNat_of_nonneg h0]; exact e2
  · simp only [hk, decide_false, Bool.false_eq_true, if_false]
    refine wpAny_BinOp (ldZ F rfl (wpAny_Constant_int (sub_int ?_)))
    refine h _ _ _ _ F.x ?_
    rw [toPart, if_neg hk]
    exact .num _ _
end
end Mine
end
section
open PySem PySem.W PySem.Calls PyProof.Rows
set_option maxRecDepth 100000
set_option maxHeartbeats 4000000
namespace Mine
/-- a list of ints -/
def IsInts (h : Heap) (l : Addr) (ns : List Int) : Prop := ∃ vs : List Value, h.IsList l vs.toArray ∧ IntsAre vs ns
theorem IsInts.up {g g' : Heap} {l ns} (x : IsInts g l ns) (s : Sub g g') : IsInts g' l ns := by
  obtain ⟨vs, ⟨o, ho, r⟩, h⟩ := x
  exact ⟨vs, ⟨o, s _ _ ho, r⟩, h⟩
theorem intsAre_at : ∀ {vs : List Value} {ns : List Int}, IntsAre vs ns → ∀ {i : Nat} {n : Int}, ns[i]? = some n → ∃ tk, vs[i]? = some (.int n tk)
  | _, _, .nil, _, _, h => by simp at h
  | _, _, .cons m t r, 0, _, h => by simp at h ⊢; exact h
  | _, _, .cons m t r, i + 1, _, h => by simp at h ⊢; exact intsAre_at r h
def Part.val (ns : List Int) : Part → Int
  | .num i => i
  | .var t => ns.getD t 0
section
variable {w : World} {mg mb : Str → Option Value} {A : Around} {E : Value → Shared → Prop} {s : Shared} {g : Heap}
theorem tokZ {a : Addr} {t : Nat} {expr : Bool} {Q : Value → Shared → Prop} (X : (hd.heap_39 w.params).In s.heap) (hv : IsVar s.heap a t)
    (h : ∀ tk tk', Q (.int t tk) { s with toks := tk' }) : wpAny (model P0 w) A (getAttr (.ref a) "token" expr) Q E s := by
  obtain ⟨da, hs, tk, tk', n, h1, h2⟩ := hv.at_
  have I : W.InstAt s.heap a (instObj 185 da) 185 (some (dictOf [⟨hs, .str "token" tk, .int t tk'⟩] n)) := ⟨h1, rfl, rfl, h2⟩
  exact get_value X I (plainGet_of (name := "token") (by k_is)).1 (findObj_own (K := hd.heap_39 w.params) (attr := none) (by k_is) (by k_is) (by k_is) rfl) rfl (h _ _)
theorem itemZ {value slice : Expr} {l : Addr} {ns : List Int} {i : Nat} {u : Tok} {n : Int} {Q : Value → Shared → Prop} (hl : IsInts s.heap l ns) (hi : ns[i]? = some n) (h63 : ns.length < 1000) (h : ∀ tk, Q (.int n tk) s)
    (hs : subscripted slice false (.ref l) (.int i u) = operate [.ref l, .int i u] (getItem (.ref l) (.int i u)) := by with_unfolding_all rfl) :
    wpAny (model P0 w) A (subscriptTail value slice (.ref l) (.int i u)) Q E s := by
  obtain ⟨vs, hl, hi'⟩ := hl
  obtain ⟨tk, hx⟩ := intsAre_at hi' hi
  have hlt : i < ns.length := by
    rcases Nat.lt_or_ge i ns.length with q | q
    · exact q
    · rw [List.getElem?_eq_none q] at hi; cases hi
  exact tail_any hl.typeIs slot_list_getitem.lookup (wpAny_getItem_list hl (by omega) (by omega) (by simpa using hx) (h tk)) hs
theorem value_spec {v : Value} {p : Part} {l : Addr} {ns : List Int} {Q : Value → Shared → Prop} (G : Gd w mg mb g) (hg : Sub g s.heap) (hroom : A.depth + 3 < recursionLimit) (hp : IsPart g v p) (hl : IsInts g l ns)
    (hn : ns.length < 1000) (ht : ∀ t, p = .var t → t < ns.length)
    (h : ∀ h' tk' tk, Ext g s.heap g h' → Q (.int (p.val ns) tk) { s with heap := h', toks := tk' }) :
    wpAny (model P0 w) A (call (.ref 275) [v, .ref l] []) Q E s := by
  refine wpAny_call ?_
  refine callZ G hg (by omega) (binds := [("part", v), ("given", .ref l)]) (by k_is) (by k_is) (BindsTo.of_eq rfl) (by decide) (locs rfl) (fun L h₁ F => ?_)
  dsimp only
  refine wpAny_execs_cons (wpAny_Return_some (wpAny_IfExp ?_))
  refine isTrue_plain (Call_Name rfl (nameB G F.x.gh (by k_is) (by boot_fast) (by decide) (callWith_builtin rfl ?_)))
  refine evalArgs_plain (spliced_more (ldZ F rfl (spliced_more (nameG G F.x.gh (by k_is) (spliced_none ?_)))))
  refine isVar_call (G.k.keeps F.x.gh) (hp.up F.x.gh) (fun tk1 => wpAny_truthy_bool ?_)
  cases hp with
  | num i tk =>
    simp only [Part.isVar, Bool.false_eq_true, if_false]
    exact ldZ F rfl (h _ _ _ F.x)
  | @var a t hv =>
    simp only [Part.isVar, if_true]
    have hlt := ht t rfl
    refine Subscript_ (ldZ F rfl (Attribute_name (ldZ F rfl (tokZ (G.k.keeps F.x.gh) (hv.up F.x.gh) (fun tk tk' => ?_)))))
    refine itemZ (hl.up F.x.gh) (List.getElem?_eq_getElem hlt) hn (fun tk2 => ?_)
    have e : ns[t] = (Part.var t).val ns := by
      show _ = ns.getD t 0
      rw [List.getD_eq_getElem?_getD, List.getElem?_eq_getElem hlt]; rfl
    rw [e]
    exact h _ _ _ F.x
end
end Mine
end
section
open PySem PySem.W PySem.Calls PyProof.Rows
set_option maxRecDepth 100000
set_option maxHeartbeats 4000000
namespace Mine
section
variable {prog : Program} {w : World} {A : Around} {E : Value → Shared → Prop} {s : Shared} {K : Frag}
theorem rc_eq {a b ta tb : Value} {Q : Value → Shared → Prop} (hone : oneThing? .Eq a b = none) (hu : A.units < cLine) (La : Looks (model prog w) s.heap (typeOf a) ta) (Lb : Looks (model prog w) s.heap (typeOf b) tb)
    (hrf : ta = tb ∨ Looks (model prog w) s.heap (isSubtype tb ta) false)
    (h : wpAny (model prog w) A (tryCompare a "__eq__" b) (fun r s₁ => match r with
      | some v => Q v s₁
      | none => wpAny (model prog w) A (tryCompare b "__eq__" a) (fun r s₂ => match r with
        | some v => Q v s₂
        | none => wpAny (model prog w) A (isSame a b) (fun k => Q (.bool k)) E s₂) E s₁) E s) :
    wpAny (model prog w) A (richCompare .Eq a b) Q E s := by
  unfold richCompare
  simp only [hone]
  refine wpAny_holding (wpAny_bind (wpAny_cRoomFor hu ?_))
  refine wpAny_bind (La.here (wpAny_bind (Lb.here ?_)))
  have fin : wpAny (model prog w) A (do
      if let some v ← tryCompare a (cmpInfo .Eq).2.1 b then return v
      if let some v ← tryCompare b (cmpInfo .Eq).2.2 a then return v
      rule "compare.eq-identity"; return .bool (← isSame a b)) Q E s := by
    refine wpAny_bind (wpAny_mono h (fun r s₁ h₁ => ?_) fun _ _ z => z)
    cases r with
    | some v => exact wpAny_pure h₁
    | none =>
      refine wpAny_bind (wpAny_mono h₁ (fun r s₂ h₂ => ?_) fun _ _ z => z)
      cases r with
      | some v => exact wpAny_pure h₂
      | none => exact wpAny_bind (wpAny_rule (wpAny_bind (wpAny_mono h₂ (fun k s₃ h₃ => wpAny_pure h₃) fun _ _ z => z)))
  by_cases q : ta = tb
  · subst q
    simp only [bne_self_eq_false, Bool.false_eq_true, if_false]
    exact wpAny_bind (wpAny_pure fin)
  · have hs := hrf.resolve_left q
    have hne : (ta != tb) = true := by simpa using q
    simp only [hne, if_true]
    refine wpAny_bind (hs.here ?_)
    exact fin
theorem typ_ofShared {v : Value} {T : String} (h : ∀ s' : Shared, s'.TypeIs v T) : Looks (model prog w) s.heap (typeOf v) (.type T) := fun A Q E s' _ q => wpAny_typeOf (h s') q
end
section
variable {w : World} {A : Around} {E : Value → Shared → Prop} {s : Shared}
theorem cls_typ (X : (hd.heap_39 w.params).In s.heap) : s.TypeIs (.ref 185) "type" := ⟨_, X 185 _ (by k_is), rfl⟩
theorem oeq_same {Q : Value → Shared → Prop} (X : (hd.heap_39 w.params).In s.heap) (h : Q (.bool true) s) :
    wpAny (model P0 w) A (call (.builtin "object.__eq__") [.ref 185, .ref 185]) Q E s :=
  call_gives (m := .val (.bool true)) TypeEq.slot_type_eq (cls_typ X) F.entry_object_eq (F.args_object_eq_2 _ _)
    (.of_wp fun M A E s Q h => wpAny_bind (wpAny_pure (wpAny_bind (wpAny_isSame_ref_self (wpAny_pure ⟨_, rfl, h⟩))))) h
theorem oeq_T {T : String} {Q : Value → Shared → Prop} (X : (hd.heap_39 w.params).In s.heap) (h : Q .notImplemented s) :
    wpAny (model P0 w) A (call (.builtin "object.__eq__") [.ref 185, .type T]) Q E s :=
  call_gives (m := .val .notImplemented) TypeEq.slot_type_eq (cls_typ X) F.entry_object_eq (F.args_object_eq_2 _ _) (TypeEq.object_eq_other rfl rfl) h
theorem oeq_T' {T : String} {Q : Value → Shared → Prop} (hT : ∀ s' : Shared, s'.TypeIs (.type T) "type") (h : Q .notImplemented s) :
    wpAny (model P0 w) A (call (.builtin "object.__eq__") [.type T, .ref 185]) Q E s :=
  call_gives (m := .val .notImplemented) TypeEq.slot_type_eq (hT s) F.entry_object_eq (F.args_object_eq_2 _ _) (TypeEq.object_eq_other rfl rfl) h
theorem cls_same {Q : Value → Shared → Prop} (X : (hd.heap_39 w.params).In s.heap) (hu : A.units < cLine) (h : Q (.bool true) s) :
    wpAny (model P0 w) A (compareOp .Eq (.ref 185) (.ref 185)) Q E s := by
  show wpAny _ A (richCompare .Eq _ _) Q E s
  have L : Looks (model P0 w) s.heap (typeOf (.ref 185)) (.type "type") := looks_typeIn X (by k_is)
  refine rc_eq rfl hu L L (.inl rfl) ?_
  unfold tryCompare
  refine wpAny_bind (wpAny_callSpecialIfBound?_slot (cls_typ X) TypeEq.slot_type_eq (oeq_same X (wpAny_pure h)))
theorem cls_int {Q : Value → Shared → Prop} (X : (hd.heap_39 w.params).In s.heap) (hu : A.units < cLine) (h : Q (.bool false) s) :
    wpAny (model P0 w) A (compareOp .Eq (.ref 185) (.type "int")) Q E s := by
  show wpAny _ A (richCompare .Eq _ _) Q E s
  have L : Looks (model P0 w) s.heap (typeOf (.ref 185)) (.type "type") := looks_typeIn X (by k_is)
  refine rc_eq rfl hu L (typ_ofShared TypeEq.meta_int) (.inl rfl) ?_
  refine wpAny_tryCompare_declines (cls_typ X) TypeEq.slot_type_eq (oeq_T X ⟨rfl, ?_⟩)
  refine wpAny_tryCompare_declines (TypeEq.meta_int _) TypeEq.slot_type_eq (oeq_T' TypeEq.meta_int ⟨rfl, ?_⟩)
  exact wpAny_isSame_plain rfl h
theorem int_eq_ref {n : Int} {u : Tok} {a : Addr} {o : Obj} {Q : Value → Shared → Prop} (ho : s.heap.get? a = some o) (hp : o.data = .plain) (h : Q .notImplemented s) :
    wpAny (model P0 w) A (call (.builtin "int.__eq__") [.int n u, .ref a]) Q E s :=
  call_givesAt (P := fun s => s.heap.get? a = some o) (m := .val .notImplemented) F.slot_int_eq rfl F.entry_int_eq (F.args_int_eq_2 _ _)
    (fun prog w A R s ho h => by
      obtain ⟨oc, od, oda, osl⟩ := o
      dsimp only at hp
      subst hp
      obtain ⟨hp, g, d, tk, os⟩ := s
      wp_walk
      exact h) ho h
end
end Mine
end
section
open PySem PySem.W PySem.Calls PyProof.Rows
set_option maxRecDepth 100000
set_option maxHeartbeats 4000000
namespace Mine
/-- room for k calls more -/
def Rm (k : Nat) (A : Around) : Prop := A.depth + k < recursionLimit ∧ A.units + 50 * k < cLine
theorem Rm.deeper {k : Nat} {A : Around} {env : Env} (h : Rm (k + 1) A) : Rm k (A.deeper env) := by
  unfold Rm at *; rw [depth_deeper, units_deeper]; omega
theorem Rm.le {k j : Nat} {A : Around} (h : Rm k A) (hj : j ≤ k) : Rm j A := by unfold Rm at *; omega
theorem Rm.depth {k : Nat} {A : Around} (h : Rm k A) : A.depth < recursionLimit := by unfold Rm at *; omega
theorem Rm.units {k : Nat} {A : Around} (h : Rm k A) : A.units < cLine := by unfold Rm at *; omega
theorem Rm.in1 {k : Nat} {A : Around} (h : Rm (k + 1) A) : Rm k A.in1 := by unfold Rm at *; rw [depth_in1, units_in1]; omega
section
variable {w : World} {mg mb : Str → Option Value} {A : Around} {E : Value → Shared → Prop} {s : Shared} {g : Heap}
def eqAns (t : Nat) : Part → Value
  | .var t' => .bool (decide (t = t'))
  | .num _ => .notImplemented
theorem eqdef_spec {a : Addr} {t : Nat} {v : Value} {p : Part} {Q : Value → Shared → Prop} (G : Gd w mg mb g) (hg : Sub g s.heap) (hroom : Rm 2 A) (ha : IsVar g a t) (hp : IsPart g v p)
    (h : ∀ h' tk, Ext g s.heap g h' → Q (eqAns t p) { s with heap := h', toks := tk }) :
    wpAny (model P0 w) A (call (.ref 175) [.ref a, v] []) Q E s := by
  refine wpAny_call ?_
  refine callZ G hg hroom.depth (binds := [("self", .ref a), ("other", v)]) (by k_is) (by k_is) (BindsTo.of_eq rfl) (by decide) (locs rfl) (fun L h₁ F => ?_)
  dsimp only
  have X := G.k.keeps F.x.gh
  have a1 := ha.up F.x.gh
  have p1 := hp.up F.x.gh
  obtain ⟨ox, od, I⟩ := a1.inst
  refine wpAny_execs_cons (wpAny_If (wpAny_isTrue_Compare1 ?_))
  refine Call_Name rfl (nameB G F.x.gh (by k_is) (by boot_fast) (by decide) (callWith_type1 (spliced_more (ldZ F rfl (spliced_none ?_)))))
  refine kto_own I ?_
  refine Call_Name rfl (nameB G F.x.gh (by k_is) (by boot_fast) (by decide) (callWith_type1 (spliced_more (ldZ F rfl (spliced_none ?_)))))
  cases p1 with
  | num i tk =>
    refine call_type_of (Tx := "int") rfl rfl ?_
    refine cls_int X (Rm.units (k := 1) hroom.deeper) (wpAny_truthy_bool ?_)
    simp only [Bool.false_eq_true, if_false]
    refine wpAny_execs_nil (wpAny_execs_cons (wpAny_Return_some (nameB (v := .notImplemented) G F.x.gh (by k_is) (by first | kernel_rfl | rfl) (by decide) ?_)))
    exact h _ _ F.x
  | @var b t' hb =>
    obtain ⟨oy, ody, J⟩ := hb.inst
    refine kto_own J ?_
    refine cls_same X (Rm.units (k := 1) hroom.deeper) (wpAny_truthy_bool ?_)
    simp only [if_true]
    refine wpAny_execs_cons (wpAny_Return_some (wpAny_Compare1 ?_))
    refine Attribute_name (ldZ F rfl (tokZ X a1 (fun tk1 tk2 => ?_)))
    refine Attribute_name (ldZ F rfl (tokZ X hb (fun tk3 tk4 => eq_int ?_)))
    have e : (Value.bool ((t : Int) == (t' : Int))) = eqAns t (.var t') := by
      show _ = Value.bool (decide (t = t'))
      congr 1
      by_cases q : t = t'
      · subst q; simp
      · rw [decide_eq_false q]; exact beq_eq_false_iff_ne.mpr (by omega)
    have := h h₁ tk4 F.x
    rw [← e] at this
    exact this
end
end Mine
end
section
open PySem PySem.W PySem.Calls PyProof.Rows
set_option maxRecDepth 100000
set_option maxHeartbeats 4000000
namespace Mine
section
variable {w : World} {mg mb : Str → Option Value} {A : Around} {E : Value → Shared → Prop} {s : Shared} {g : Heap}
def eqRes (t : Nat) : Part → Option Value
  | .var t' => some (.bool (decide (t = t')))
  | .num _ => none
theorem try_var {a : Addr} {t : Nat} {v : Value} {p : Part} {Q : Option Value → Shared → Prop} (G : Gd w mg mb g) (hg : Sub g s.heap) (hroom : Rm 2 A) (ha : IsVar g a t) (hp : IsPart g v p)
    (h : ∀ h' tk, Ext g s.heap g h' → Q (eqRes t p) { s with heap := h', toks := tk }) :
    wpAny (model P0 w) A (tryCompare (.ref a) "__eq__" v) Q E s := by
  obtain ⟨ox, od, I⟩ := (ha.up hg).inst
  unfold tryCompare
  refine wpAny_bind (ifBound_K (G.k.keeps hg) I (f := 175) (by k_is) (by k_is) (eqdef_spec G hg hroom ha hp (fun h' tk x => ?_)))
  have := h h' tk x
  cases p with
  | var t' => exact wpAny_pure this
  | num i => exact wpAny_pure this
theorem IsVar.plain {g : Heap} {a : Addr} {t : Nat} (h : IsVar g a t) : ∃ o, g.get? a = some o ∧ o.data = .plain := by
  obtain ⟨da, hs, tk, tk', n, h1, h2⟩ := h.at_
  exact ⟨_, h1, rfl⟩
theorem try_int {n : Int} {u : Tok} {a : Addr} {t : Nat} {Q : Option Value → Shared → Prop} (ha : IsVar s.heap a t) (h : Q none s) : wpAny (model P0 w) A (tryCompare (.int n u) "__eq__" (.ref a)) Q E s := by
  obtain ⟨o, ho, hd⟩ := ha.plain
  exact wpAny_tryCompare_declines rfl F.slot_int_eq (int_eq_ref ho hd ⟨rfl, h⟩)
theorem typ_int {n : Int} {u : Tok} {h : Heap} {M : Model} : Looks M h (typeOf (.int n u)) (.type "int") := Looks.of_pure rfl
theorem peq {v v' : Value} {p p' : Part} {Q : Value → Shared → Prop} (G : Gd w mg mb g) (hg : Sub g s.heap) (hroom : Rm 2 A) (hv : IsPart g v p) (hv' : IsPart g v' p')
    (h : ∀ h' tk, Ext g s.heap g h' → Q (.bool (decide (p = p'))) { s with heap := h', toks := tk }) :
    wpAny (model P0 w) A (richCompare .Eq v v') Q E s := by
  have X := G.k.keeps hg
  cases hv with
  | num i tk =>
    cases hv' with
    | num j tk' =>
      refine eq_int (?_ : (fun r s' => Q r s') _ _)
      have e : (i == j) = decide (Part.num i = Part.num j) := by
        by_cases q : i = j
        · subst q; simp
        · rw [decide_eq_false (by simpa using q)]; exact beq_eq_false_iff_ne.mpr q
      rw [e]
      exact h _ _ (Ext.refl hg)
    | @var b t' hb =>
      obtain ⟨oy, ody, J⟩ := (hb.up hg).inst
      refine rc_eq rfl hroom.units typ_int J.type (.inr (looks_subIn X (by k_is))) (try_int (hb.up hg) ?_)
      dsimp only
      refine try_var G hg hroom hb (.num i tk) (fun h' tk' x => ?_)
      dsimp only [eqRes]
      refine wpAny_isSame_plain rfl ?_
      rw [show (Value.int i tk == Value.ref b) = decide (Part.num i = Part.var t') from rfl]
      exact h _ _ x
  | @var a t ha =>
    obtain ⟨ox, od, I⟩ := (ha.up hg).inst
    cases hv' with
    | num j tk' =>
      refine rc_eq rfl hroom.units I.type typ_int (.inr (looks_subIn X (by k_is))) (try_var G hg hroom ha (.num j tk') (fun h' tk x => ?_))
      dsimp only [eqRes]
      refine try_int (ha.up x.gh) ?_
      dsimp only
      refine wpAny_isSame_plain rfl ?_
      rw [show (Value.ref a == Value.int j tk') = decide (Part.var t = Part.num j) from rfl]
      exact h _ _ x
    | @var b t' hb =>
      obtain ⟨oy, ody, J⟩ := (hb.up hg).inst
      refine rc_eq rfl hroom.units I.type J.type (.inl rfl) (try_var G hg hroom ha (.var hb) (fun h' tk x => ?_))
      dsimp only [eqRes]
      have e : decide (t = t') = decide (Part.var t = Part.var t') := decide_eq_decide.mpr (by simp)
      rw [e]
      exact h _ _ x
theorem IsVar.det {g : Heap} {a : Addr} {t t' : Nat} (h : IsVar g a t) (h' : IsVar g a t') : t = t' := by
  obtain ⟨da, hs, tk, tk1, n, h1, h2⟩ := h.at_
  obtain ⟨da', hs', tk', tk1', n', h1', h2'⟩ := h'.at_
  rw [h1] at h1'
  injection h1' with e
  injection e with _ e2
  injection e2 with e2
  subst e2
  rw [h2] at h2'
  injection h2' with e3
  injection e3 with _ _ e4
  injection e4 with e5
  have e6 := congrArg Array.toList e5
  simp at e6
  exact Int.ofNat.inj e6.2.2.1
theorem IsPart.det {g : Heap} {v : Value} {p p' : Part} (h : IsPart g v p) (h' : IsPart g v p') : p = p' := by
  cases h with
  | num i tk => cases h'; rfl
  | var ha => cases h' with | var hb => rw [ha.det hb]
theorem peqB {v v' : Value} {p p' : Part} {Q : Bool → Shared → Prop} (G : Gd w mg mb g) (hg : Sub g s.heap) (hroom : Rm 2 A) (hv : IsPart g v p) (hv' : IsPart g v' p')
    (h : ∀ h' tk, Ext g s.heap g h' → Q (decide (p = p')) { s with heap := h', toks := tk }) :
    wpAny (model P0 w) A (eqBool v v') Q E s := by
  unfold eqBool
  refine wpAny_holding ?_
  by_cases q : (v == v') = true
  · rw [if_pos q]
    have e : v = v' := eq_of_beq q
    subst e
    have := hv.det hv'
    subst this
    refine wpAny_bind (wpAny_rule (wpAny_pure ?_))
    have := h s.heap s.toks (Ext.refl hg)
    rwa [decide_eq_true rfl] at this
  · rw [if_neg q]
    have fin : wpAny (model P0 w) A (do truthOfDropped (← richCompare .Eq v v')) Q E s :=
      wpAny_bind (peq G hg hroom hv hv' fun h' tk x => wpAny_truthy_bool (h h' tk x))
    cases hv <;> cases hv' <;> exact fin
end
end Mine
end
section
open PySem PySem.W PySem.Calls PyProof.Rows
set_option maxRecDepth 100000
set_option maxHeartbeats 4000000
namespace Mine
theorem rawHash_nat {t : Nat} (h : t < 1000) : rawHash (t : Int) = t := by
  unfold rawHash
  have e : (((t : Int).natAbs % (2 ^ 61 - 1 : Nat) : Nat) : Int) = t := by
    rw [Int.natAbs_natCast, Nat.mod_eq_of_lt (by omega)]
  have e2 : (((t : Int).natAbs : Int) % ((2 ^ 61 - 1 : Nat) : Int)) = t := by rw [← Int.natCast_emod]; exact e
  have : ((t : Int) == -1) = false := beq_eq_false_iff_ne.mpr (by omega)
  have c : ¬ ((t : Int) < 0) := by omega
  simp only [e2, if_neg c, this, Bool.false_eq_true, if_false]
theorem hashInt_nat {t : Nat} (h : t < 1000) : hashInt (t : Int) = t := by
  unfold hashInt
  rw [rawHash_nat h]
  have : ((t : Int) == -1) = false := beq_eq_false_iff_ne.mpr (by omega)
  rw [this]; rfl
section
variable {w : World} {mg mb : Str → Option Value} {A : Around} {E : Value → Shared → Prop} {s : Shared} {g : Heap}
theorem hash_call {n : Int} {u : Tok} {Q : Value → Shared → Prop} (h : ∀ tk tk', Q (.int (hashInt n) tk) { s with toks := tk' }) : wpAny (model P0 w) A (call (.builtin "hash") [.int n u]) Q E s := by
  refine call_function_entry (b := Builtin.hash) (by decide +kernel) (by decide +kernel) (entryFor_of_tree (by kernel_rfl)) (by unfold argsOk; kernel_rfl) ?_
  unfold Builtin.hash
  refine wpAny_bind (wpAny_of_eq (a := .int n u) (by first | rfl | kernel_rfl) (wpAny_bind (wpAny_pyHash_int ?_)))
  exact wpAny_bind (wpAny_mkInt (wpAny_pure ⟨_, rfl, h _ _⟩))
theorem hashdef_spec {a : Addr} {t : Nat} {Q : Value → Shared → Prop} (G : Gd w mg mb g) (hg : Sub g s.heap) (hroom : Rm 2 A) (ha : IsVar g a t)
    (h : ∀ h' tk tk', Ext g s.heap g h' → Q (.int (hashInt t) tk) { s with heap := h', toks := tk' }) :
    wpAny (model P0 w) A (call (.ref 182) [.ref a] []) Q E s := by
  refine wpAny_call ?_
  refine callZ G hg hroom.depth (binds := [("self", .ref a)]) (by k_is) (by k_is) (BindsTo.of_eq rfl) (by decide) (locs rfl) (fun L h₁ F => ?_)
  dsimp only
  have X := G.k.keeps F.x.gh
  refine wpAny_execs_cons (wpAny_Return_some (Call_Name rfl (nameB (v := .builtin "hash") G F.x.gh (by k_is) (by decide +kernel) (by decide) (callWith_builtin rfl ?_))))
  refine evalArgs_plain (spliced_more (Attribute_name (ldZ F rfl (tokZ X (ha.up F.x.gh) (fun tk1 tk2 => spliced_none (hash_call (fun tk tk' => ?_)))))))
  exact h _ _ _ F.x
theorem unlessB_K {K : Frag} {x C f : Addr} {ox : Obj} {od : Option Obj} {name : Str} {M : Model} {refuse : Sem Value} {Q : Option Value → Shared → Prop} (X : K.In s.heap) (I : W.InstAt s.heap x ox C od) (hs : findIn K (.ref C) name = some (some (.ref f))) (hf : isFn K (.ref f) = true)
    (h : wpAny M A (call (.ref f) [.ref x]) (fun v => Q (some v)) E s) : wpAny M A (callSpecialIfBoundUnlessNone? (.ref x) name refuse) Q E s := by
  simp only [callSpecialIfBoundUnlessNone?, bindSpecialIfBound?]
  refine wpAny_holding (wpAny_bind (wpAny_bind (wpAny_bind (I.type.here ((looks_findIn X hs).here ?_)))))
  refine wpAny_bind (wpAny_askSetting (wpAny_ite ?_))
  have fin : wpAny M A (if (Value.ref f == Value.none) = true then (refuse >>= fun v => pure (some v)) else (call (.ref f) [.ref x] >>= fun v => pure (some v))) Q E s := by
    rw [if_neg (by simp)]
    exact wpAny_bind (wpAny_mono h (fun v s' h' => wpAny_pure h') fun _ _ h' => h')
  split
  · exact wpAny_bind ((bind_fn X _ (beq_iff_eq.mp hf)).here (wpAny_pure fin))
  · exact wpAny_tryCatch (wpAny_bind ((bind_fn X _ (beq_iff_eq.mp hf)).here (wpAny_pure fin)))
theorem pyHash_var {a : Addr} {t : Nat} {Q : Int → Shared → Prop} (G : Gd w mg mb g) (hg : Sub g s.heap) (hroom : Rm 2 A) (ha : IsVar g a t) (ht : t < 1000)
    (h : ∀ h' tk', Ext g s.heap g h' → Q t { s with heap := h', toks := tk' }) :
    wpAny (model P0 w) A (pyHash (.ref a)) Q E s := by
  have X := G.k.keeps hg
  obtain ⟨ox, od, I⟩ := (ha.up hg).inst
  have L2 : Looks (model P0 w) s.heap (typeLookup (.ref 185) "__hash__") (some (.ref 182)) := looks_findIn X (by k_is)
  have L0 : Looks (model P0 w) s.heap (specialOf (.ref a) "__hash__") (some (.ref 182)) := I.type.andThen L2
  show wpAny _ _ (pyHashByItsType (.ref a)) _ _ _
  unfold pyHashByItsType
  refine wpAny_bind (wpAny_cRoomFor hroom.units (wpAny_bind (L0.here ?_)))
  rw [if_neg (by decide)]
  refine wpAny_bind (L0.here ?_)
  simp only [Option.isNone_some, Bool.false_eq_true, if_false]
  refine wpAny_bind (unlessB_K X I (f := 182) (by k_is) (by k_is) (hashdef_spec G hg hroom ha (fun h' tk tk' x => ?_)))
  dsimp only
  rw [hashInt_nat ht]
  unfold pyHashByItsType.reduced
  have c1 : (decide (-(2 ^ 63 : Int) ≤ (t : Int)) && decide ((t : Int) < 2 ^ 63)) = true := by
    rw [Bool.and_eq_true, decide_eq_true_eq, decide_eq_true_eq]; omega
  rw [if_pos c1]
  have c2 : ((t : Int) == -1) = false := beq_eq_false_iff_ne.mpr (by omega)
  rw [c2]
  exact wpAny_pure (h _ _ x)
end
end Mine
end
section
open PySem PySem.W PySem.Calls PyProof.Rows
set_option maxRecDepth 100000
set_option maxHeartbeats 4000000
namespace Mine
abbrev Sig := List (Nat × Part)
theorem not_sys {d : Nat} (h : 185 < d) : (d == sysModules) = false := by
  have : d ≠ sysModules := fun e => by rw [e] at h; exact absurd h (by decide)
  exact beq_eq_false_iff_ne.mpr this
inductive Ents (g : Heap) : List DictEntry → Sig → Prop
  | nil : Ents g [] []
  | cons {a : Addr} {t : Nat} {v : Value} {p : Part} {es : List DictEntry} {r : Sig} : IsVar g a t → IsPart g v p → Ents g es r → Ents g (⟨(t : Int), .ref a, v⟩ :: es) ((t, p) :: r)
theorem Ents.up {g g' : Heap} {es r} (x : Ents g es r) (s : Sub g g') : Ents g' es r := by
  induction x with
  | nil => exact .nil
  | cons h1 h2 _ ih => exact .cons (h1.up s) (h2.up s) ih
theorem Ents.len {g : Heap} {es r} (x : Ents g es r) : es.length = r.length := by
  induction x with
  | nil => rfl
  | cons h1 h2 _ ih => simp [ih]
theorem Ents.at {g : Heap} {es r} (x : Ents g es r) : ∀ {i : Nat} {t : Nat} {p : Part}, r[i]? = some (t, p) → ∃ a v, es[i]? = some ⟨(t : Int), .ref a, v⟩ ∧ IsVar g a t ∧ IsPart g v p := by
  induction x with
  | nil => intro i t p h; simp at h
  | cons h1 h2 _ ih =>
    intro i t p h
    cases i with
    | zero => simp at h; obtain ⟨rfl, rfl⟩ := h; exact ⟨_, _, rfl, h1, h2⟩
    | succ j => simp at h; simpa using ih h
structure IsSub (g : Heap) (d : Addr) (σ : Sig) : Prop where
  mk ::
  at_ : ∃ es ep, g.get? d = some (dictOf es ep) ∧ Ents g es σ
  nodup : (σ.map (·.1)).Nodup
  small : ∀ x ∈ σ, x.1 < 32
  big : @LT.lt Nat _ 185 d
theorem IsSub.up {g g' : Heap} {d σ} (x : IsSub g d σ) (s : Sub g g') : IsSub g' d σ := by
  obtain ⟨⟨es, ep, h1, h2⟩, a, b, c⟩ := x
  exact ⟨⟨es, ep, s _ _ h1, h2.up s⟩, a, b, c⟩
theorem eq_single {l : List Nat} {i : Nat} (nd : l.Nodup) (hi : i ∈ l) (hu : ∀ j ∈ l, j = i) : l = [i] := by
  cases l with
  | nil => cases hi
  | cons x r =>
    have hx := hu x (by simp)
    subst hx
    cases r with
    | nil => rfl
    | cons y r =>
      have hy := hu y (by simp)
      subst hy
      simp at nd
theorem range_nodup (n : Nat) : (List.range n).Nodup := by
  rw [List.nodup_iff_pairwise_ne] <;> exact List.pairwise_lt_range.imp (fun h => Nat.ne_of_lt h)
theorem places_none {g : Heap} {es : List DictEntry} {σ : Sig} {hh : Int} (h2 : Ents g es σ) (hno : ∀ x ∈ σ, (x.1 : Int) ≠ hh) :
    placesWithHash es.toArray.size (fun i => es.toArray[i]?.map (·.hash)) hh = [] := by
  unfold placesWithHash
  rw [List.filter_eq_nil_iff]
  intro i hi
  rw [List.mem_range] at hi
  have hl : i < σ.length := by rw [← h2.len]; simpa using hi
  obtain ⟨a, v, e, _, _⟩ := h2.at (List.getElem?_eq_getElem hl)
  simp only [List.getElem?_toArray, e, Option.map_some, beq_iff_eq, Option.some.injEq]
  exact hno _ (List.getElem_mem hl)
theorem places_one {g : Heap} {es : List DictEntry} {σ : Sig} {i t : Nat} {p : Part} (h2 : Ents g es σ) (nd : (σ.map (·.1)).Nodup) (hi : σ[i]? = some (t, p)) :
    placesWithHash es.toArray.size (fun i => es.toArray[i]?.map (·.hash)) (t : Int) = [i] := by
  unfold placesWithHash
  have hlen : es.toArray.size = σ.length := by rw [List.size_toArray, h2.len]
  have hil : i < σ.length := (List.getElem?_eq_some_iff.mp hi).1
  refine eq_single ((range_nodup _).filter _) ?_ ?_
  · rw [List.mem_filter, List.mem_range]
    obtain ⟨a, v, e, _, _⟩ := h2.at hi
    exact ⟨by omega, by simp only [List.getElem?_toArray, e, Option.map_some, beq_self_eq_true]⟩
  · intro j hj
    rw [List.mem_filter, List.mem_range] at hj
    obtain ⟨hj1, hj2⟩ := hj
    have hjl : j < σ.length := by omega
    obtain ⟨a, v, e, _, _⟩ := h2.at (i := j) (t := σ[j].1) (p := σ[j].2) (List.getElem?_eq_getElem hjl)
    simp only [List.getElem?_toArray, e, Option.map_some, beq_iff_eq, Option.some.injEq] at hj2
    have e2 : (σ.map (·.1))[j]? = (σ.map (·.1))[i]? := by
      rw [List.getElem?_map, List.getElem?_map, hi, List.getElem?_eq_getElem hjl]
      simp only [Option.map_some, Option.some.injEq]
      omega
    exact (List.getElem?_inj (by simpa using hjl) nd).mp e2
section
variable {w : World} {mg mb : Str → Option Value} {A : Around} {E : Value → Shared → Prop} {s : Shared} {g : Heap}
theorem loud (G : Gd w mg mb g) {a : Addr} {t : Nat} {h : Heap} (hg : Sub g h) (ha : IsVar g a t) {n : Nat} : Looks (model P0 w) h (eqIsQuiet n (.ref a)) false := by
  have X := G.k.keeps hg
  obtain ⟨ox, od, I⟩ := (ha.up hg).inst
  have L0 : Looks (model P0 w) h (specialOf (.ref a) "__eq__") (some (.ref 175)) := I.type.andThen (looks_findIn X (by k_is))
  unfold eqIsQuiet
  exact L0.andThen (Looks.of_peek X (by kernel_rfl))
theorem dictFind_none {d : Addr} {σ : Sig} {v : Value} {p : Part} {hh : Int} {Q : Option Nat → Shared → Prop} (hg : Sub g s.heap) (hd : IsSub g d σ) (hv : IsPart g v p)
    (hno : ∀ x ∈ σ, (x.1 : Int) ≠ hh) (hp : ∀ t, p = .var t → (t : Int) = hh)
    (h : Q none s) : wpAny (model P0 w) A (dictFind d v hh) Q E s := by
  obtain ⟨⟨es, ep, h1, h2⟩, nd, sm, big⟩ := hd
  unfold dictFind
  refine wpAny_holding (wpAny_bind (wpAny_dictEntries (hg _ _ h1) rfl ?_))
  cases hv with
  | num n u =>
    dsimp only
    rw [places_none h2 hno]
    exact wpAny_pure h
  | @var a t ha =>
    dsimp only
    rw [places_none h2 hno]
    have hany : (es.toArray.any fun e => e.key == Value.ref a && e.hash != hh) = false := by
      rw [Array.any_eq_false]
      intro i hi
      have hl : i < σ.length := by rw [← h2.len]; simpa using hi
      obtain ⟨b, v, e, hb, _⟩ := h2.at (List.getElem?_eq_getElem hl)
      have e' : es[i] = ⟨(σ[i].1 : Int), .ref b, v⟩ := by
        have := List.getElem?_eq_getElem (l := es) (i := i) (by simpa using hi)
        rw [this] at e; injection e
      rw [List.getElem_toArray, e']
      intro q
      simp only [Bool.and_eq_true, beq_iff_eq, Value.ref.injEq] at q
      obtain ⟨q, _⟩ := q
      subst q
      exact hno _ (List.getElem_mem hl) (by rw [show σ[i].1 = t from hb.det ha]; exact hp t rfl)
    rw [if_neg (by simp [carriedByValue]), hany]
    exact wpAny_bind (wpAny_pure (wpAny_pure h))
theorem any_same {a : Addr} {t : Nat} {es : List DictEntry} {σ : Sig} (h2 : Ents g es σ) (ha : IsVar g a t) : (es.toArray.any fun e => e.key == Value.ref a && e.hash != (t : Int)) = false := by
  rw [Array.any_eq_false]
  intro i hi
  have hl : i < σ.length := by rw [← h2.len]; simpa using hi
  obtain ⟨b, v, e, hb, _⟩ := h2.at (List.getElem?_eq_getElem hl)
  have e' : es[i] = ⟨(σ[i].1 : Int), .ref b, v⟩ := by
    have := List.getElem?_eq_getElem (l := es) (i := i) (by simpa using hi)
    rw [this] at e; injection e
  rw [List.getElem_toArray, e']
  intro q
  simp only [Bool.and_eq_true, beq_iff_eq, Value.ref.injEq, bne_iff_ne] at q
  obtain ⟨q, q2⟩ := q
  subst q
  exact q2 (by rw [show σ[i].1 = t from hb.det ha])
theorem dictFind_one {d : Addr} {σ : Sig} {v : Value} {p q : Part} {i t : Nat} {Q : Option Nat → Shared → Prop} (G : Gd w mg mb g) (hg : Sub g s.heap) (hroom : Rm 2 A) (hd : IsSub g d σ) (hv : IsPart g v p)
    (hi : σ[i]? = some (t, q)) (hp : ∀ t', p = .var t' → t' = t)
    (h : ∀ h' tk', Ext g s.heap g h' → Q (if p = .var t then some i else none) { s with heap := h', toks := tk' }) : wpAny (model P0 w) A (dictFind d v (t : Int)) Q E s := by
  obtain ⟨⟨es, ep, h1, h2⟩, nd, sm, big⟩ := hd
  obtain ⟨b, u, he, hb, hu⟩ := h2.at hi
  have ht : t < 32 := sm _ (List.mem_of_getElem? hi)
  have he' : es.toArray[i]? = some ⟨(t : Int), .ref b, u⟩ := by rw [List.getElem?_toArray]; exact he
  have hrange : (decide (0 ≤ (t : Int)) && decide ((t : Int) < 32)) = true := by rw [Bool.and_eq_true, decide_eq_true_eq, decide_eq_true_eq]; omega
  unfold dictFind
  refine wpAny_holding (wpAny_bind (wpAny_dictEntries (hg _ _ h1) rfl ?_))
  have step : ∀ (Q' : Bool → Shared → Prop), (∀ h' tk', Ext g s.heap g h' → Q' (decide (Part.var t = p)) { s with heap := h', toks := tk' }) →
      wpAny (model P0 w) A (eqBool (.ref b) v) Q' E s := fun Q' hq => peqB G hg hroom (.var hb) hv hq
  cases hv with
  | num n tk =>
    dsimp only
    rw [places_one h2 nd hi]
    simp only [List.filterMap_cons, he', Option.map_some, List.filterMap_nil]
    rw [if_neg (by simp [carriedByValue]), if_neg (by simp)]
    have tell : Looks (model P0 w) s.heap (tableMayTell (.int n tk) [.ref b]) true := by
      unfold tableMayTell
      rw [if_neg (by simp)]
      refine Looks.andThen (a := true) (Looks.of_pure rfl) ?_
      simp only [Bool.not_true, Bool.false_eq_true, if_false, List.forIn_cons, List.forIn_nil]
      refine Looks.andThen (a := (some true, ())) ?_ .now
      refine Looks.andThen (a := ForInStep.done (some true, ())) ?_ .now
      exact Looks.andThen (loud G hg hb) .now
    refine wpAny_bind (tell.here ?_)
    rw [if_neg (by simp), List.forIn_cons]
    simp only [he', beq_self_eq_true, if_true]
    refine wpAny_bind (wpAny_bind (wpAny_bind (wpAny_dictEpoch (hg _ _ h1) rfl (wpAny_bind (step _ fun h' tk' x => wpAny_bind (wpAny_dictEpoch (x.gh _ _ h1) rfl ?_))))))
    have := h h' tk' x
    rw [if_neg (by simp)] at this
    simp only [bne_self_eq_false, Bool.false_eq_true, if_false, hrange, Bool.not_true, Bool.and_false, decide_false, reduceCtorEq]
    exact wpAny_bind (wpAny_rule (wpAny_pure (wpAny_pure (wpAny_pure this))))
  | @var a t' ha =>
    have := hp t' rfl
    subst this
    dsimp only
    rw [places_one h2 nd hi]
    simp only [List.filterMap_cons, he', Option.map_some, List.filterMap_nil]
    rw [if_neg (by simp [carriedByValue]), any_same h2 ha]
    have tell : Looks (model P0 w) s.heap (tableMayTell (.ref a) [.ref b]) true := by
      unfold tableMayTell
      rw [if_neg (by simp)]
      exact Looks.andThen (loud G hg ha) .now
    simp only [Bool.false_eq_true, if_false]
    by_cases hst : ([Value.ref b] == [Value.ref a]) = true
    · rw [if_pos hst]
      refine wpAny_bind (wpAny_pure ?_)
      rw [if_neg (by simp), List.forIn_cons]
      simp only [he', beq_self_eq_true, if_true]
      refine wpAny_bind (wpAny_bind (wpAny_bind (wpAny_dictEpoch (hg _ _ h1) rfl (wpAny_bind (step _ fun h' tk' x => wpAny_bind (wpAny_dictEpoch (x.gh _ _ h1) rfl ?_))))))
      have := h h' tk' x
      rw [if_pos rfl] at this
      simp only [bne_self_eq_false, Bool.false_eq_true, if_false, decide_true, if_true, Option.isSome_none, List.length_cons, List.length_nil]
      exact wpAny_bind (wpAny_rule (wpAny_pure (wpAny_pure (wpAny_pure this))))
    · rw [if_neg hst]
      refine wpAny_bind (tell.here ?_)
      rw [if_neg (by simp), List.forIn_cons]
      simp only [he', beq_self_eq_true, if_true]
      refine wpAny_bind (wpAny_bind (wpAny_bind (wpAny_dictEpoch (hg _ _ h1) rfl (wpAny_bind (step _ fun h' tk' x => wpAny_bind (wpAny_dictEpoch (x.gh _ _ h1) rfl ?_))))))
      have := h h' tk' x
      rw [if_pos rfl] at this
      simp only [bne_self_eq_false, Bool.false_eq_true, if_false, decide_true, if_true, Option.isSome_none, List.length_cons, List.length_nil]
      exact wpAny_bind (wpAny_rule (wpAny_pure (wpAny_pure (wpAny_pure this))))
end
end Mine
end
section
open PySem PySem.W PySem.Calls PyProof.Rows
set_option maxRecDepth 100000
set_option maxHeartbeats 4000000
namespace Mine
/-- what a substitution says of a part -/
def look (σ : Sig) : Part → Option Part
  | .var t => (σ.find? (fun x => x.1 == t)).map (·.2)
  | .num _ => none
theorem look_at {σ : Sig} (nd : (σ.map (·.1)).Nodup) {i t : Nat} {q : Part} (hi : σ[i]? = some (t, q)) : look σ (.var t) = some q := by
  induction σ generalizing i with
  | nil => simp at hi
  | cons x r ih =>
    rw [List.map_cons, List.nodup_cons] at nd
    cases i with
    | zero => simp at hi; subst hi; simp [look]
    | succ j =>
      simp at hi
      have hne : ¬ x.1 = t := fun e => nd.1 (List.mem_map.mpr ⟨(t, q), List.mem_of_getElem? hi, e.symm⟩)
      have := ih nd.2 hi
      simp only [look, List.find?_cons] at this ⊢
      rw [show (x.1 == t) = false from by simpa using hne]
      exact this
theorem look_none {σ : Sig} {t : Nat} (h : ∀ x ∈ σ, x.1 ≠ t) : look σ (.var t) = none := by
  simp only [look, Option.map_eq_none_iff, List.find?_eq_none, beq_iff_eq]
  exact h
inductive IsOpt (g : Heap) : Option Value → Option Part → Prop
  | none : IsOpt g none none
  | some {v p} : IsPart g v p → IsOpt g (some v) (some p)
def Part.small : Part → Prop
  | .var t => t < 32
  | .num _ => True
section
variable {w : World} {mg mb : Str → Option Value} {A : Around} {E : Value → Shared → Prop} {s : Shared} {g : Heap}
theorem Ext.same {g h h' : Heap} (hs : Heap.SameBut 0 h h') : True := trivial
theorem pyHash_part {v : Value} {p : Part} {Q : Int → Shared → Prop} (G : Gd w mg mb g) (hg : Sub g s.heap) (hroom : Rm 2 A) (hv : IsPart g v p) (hs : p.small)
    (h : ∀ h' tk', Ext g s.heap g h' → Q (match p with | .var t => (t : Int) | .num n => hashInt n) { s with heap := h', toks := tk' }) :
    wpAny (model P0 w) A (pyHash v) Q E s := by
  cases hv with
  | num n u => exact wpAny_pyHash_int (h _ _ (Ext.refl hg))
  | @var a t ha => exact pyHash_var G hg hroom ha (Nat.lt_trans hs (by decide)) h
theorem dictGet_sub {d : Addr} {σ : Sig} {v : Value} {p : Part} {Q : Option Value → Shared → Prop} (G : Gd w mg mb g) (hg : Sub g s.heap) (hroom : Rm 2 A) (hd : IsSub g d σ) (hv : IsPart g v p) (hs : p.small)
    (h : ∀ h' tk' r, Ext g s.heap g h' → IsOpt g r (look σ p) → Q r { s with heap := h', toks := tk' }) :
    wpAny (model P0 w) A (dictGet d v) Q E s := by
  unfold dictGet
  refine wpAny_holding (wpAny_bind (pyHash_part G hg hroom hv hs fun h1 tk1 x1 => wpAny_bind ?_))
  generalize hH : (match p with | .var t => (t : Int) | .num n => hashInt n) = hh
  by_cases hex : ∃ x ∈ σ, (x.1 : Int) = hh
  · obtain ⟨x, hx, e⟩ := hex
    obtain ⟨i, hi⟩ := List.mem_iff_getElem?.mp hx
    obtain ⟨t, q⟩ := x
    dsimp only at e
    subst e
    have hp : ∀ t', p = .var t' → t' = t := fun t' e => by subst e; exact Int.ofNat.inj hH
    refine dictFind_one (s := { s with heap := h1, toks := tk1 }) G x1.gh hroom hd hv hi hp fun h2 tk2 x2 => ?_
    have x12 := x1.trans x2
    by_cases ep : p = .var t
    · subst ep
      rw [if_pos rfl]
      obtain ⟨⟨es, ep, e1, e2⟩, nd, sm, big⟩ := hd
      obtain ⟨a, u, he, ha, hu⟩ := e2.at hi
      refine wpAny_bind (wpAny_dictEntries (x2.gh _ _ e1) rfl ?_)
      rw [List.getElem?_toArray, he]
      refine wpAny_pure (h h2 tk2 _ x12 ?_)
      rw [look_at nd hi]
      exact .some hu
    · rw [if_neg ep]
      refine wpAny_pure (h h2 tk2 _ x12 ?_)
      cases p with
      | num n => exact .none
      | var t' => exact absurd (by rw [hp t' rfl]) ep
  · have hno : ∀ x ∈ σ, (x.1 : Int) ≠ hh := fun x hx e => hex ⟨x, hx, e⟩
    refine dictFind_none (s := { s with heap := h1, toks := tk1 }) x1.gh hd hv hno (fun t e => by subst e; exact hH) (wpAny_pure (h h1 tk1 _ x1 ?_))
    cases p with
    | num n => exact .none
    | var t =>
      rw [look_none fun x hx e => hno x hx (by rw [e]; exact hH)]
      exact .none
theorem IsSub.typeIs {d : Addr} {σ : Sig} (hg : Sub g s.heap) (hd : IsSub g d σ) : s.TypeIs (.ref d) "dict" := by
  obtain ⟨⟨es, ep, e1, e2⟩, nd, sm, big⟩ := hd
  exact ⟨_, hg _ _ e1, rfl⟩
theorem in_sub {d : Addr} {σ : Sig} {v : Value} {p : Part} {Q : Value → Shared → Prop} (G : Gd w mg mb g) (hg : Sub g s.heap) (hroom : Rm 3 A) (hd : IsSub g d σ) (hv : IsPart g v p) (hs : p.small)
    (h : ∀ h' tk', Ext g s.heap g h' → Q (.bool (look σ p).isSome) { s with heap := h', toks := tk' }) :
    wpAny (model P0 w) A (compareOp .In v (.ref d)) Q E s := by
  have hT := hd.typeIs hg
  show wpAny _ _ (do return .bool (← contains (.ref d) v)) Q E s
  refine wpAny_bind ?_
  unfold contains
  refine wpAny_holding (wpAny_bind (wpAny_specialOf hT slot_dict_contains.lookup ?_))
  show wpAny _ _ (if (some (Value.builtin "dict.__contains__") == some Value.none) = true then _ else _) _ E s
  rw [if_neg (by rw [beq_builtin_none]; exact Bool.false_ne_true)]
  refine wpAny_bind (wpAny_callSpecialUnlessNone?_slot (name := Str.ofString "__contains__") hT slot_dict_contains
    (wpAny_call_entry slot_dict_contains hT entry_dict_contains ?_ (args_dict_contains _ _)))
  show wpAny _ _ (dictGet d v >>= _) _ _ s
  refine wpAny_bind (dictGet_sub G hg hroom.in1 hd hv hs fun h' tk' r x hr => ?_)
  have := h h' tk' x
  cases hr' : look σ p with
  | some q =>
    rw [hr'] at hr this
    cases hr
    show wpAny _ _ (ret (.bool true)) _ _ _
    exact wpAny_pure ⟨_, rfl, wpAny_truthy_bool (wpAny_pure this)⟩
  | none =>
    rw [hr'] at hr this
    cases hr
    show wpAny _ _ (Builtin.Dict.pendingKey? d v >>= _) _ _ _
    exact wpAny_bind (wpAny_pendingKey_other (not_sys hd.big) (wpAny_pure ⟨_, rfl, wpAny_truthy_bool (wpAny_pure this)⟩))
theorem get_sub {d : Addr} {σ : Sig} {v : Value} {p q : Part} {Q : Value → Shared → Prop} (G : Gd w mg mb g) (hg : Sub g s.heap) (hroom : Rm 3 A) (hd : IsSub g d σ) (hv : IsPart g v p) (hs : p.small) (hl : look σ p = some q)
    (h : ∀ h' tk' v', Ext g s.heap g h' → IsPart g v' q → Q v' { s with heap := h', toks := tk' }) :
    wpAny (model P0 w) A (getItem (.ref d) v) Q E s := by
  have hT := hd.typeIs hg
  unfold getItem
  refine wpAny_holding (wpAny_bind (wpAny_sequenceKey hT (by decide) ?_))
  refine wpAny_bind (wpAny_callSpecial?_slot (name := Str.ofString "__getitem__") hT slot_dict_getitem
    (wpAny_call_entry slot_dict_getitem hT entry_dict_getitem ?_ (args_dict_getitem _ _)))
  show wpAny _ _ (dictGet d v >>= _) _ _ s
  refine wpAny_bind (dictGet_sub G hg hroom.in1 hd hv hs fun h' tk' r x hr => ?_)
  rw [hl] at hr
  cases hr with
  | some hu => exact wpAny_pure ⟨_, rfl, wpAny_pure (h h' tk' _ x hu)⟩
end
end Mine
end
section
open PySem PySem.W PySem.Calls PyProof.Rows
set_option maxRecDepth 100000
set_option maxHeartbeats 4000000
namespace Mine
theorem filter_le_one {g : Heap} {es : List DictEntry} {σ : Sig} (h2 : Ents g es σ) (nd : (σ.map (·.1)).Nodup) : ∀ e ∈ es, (es.toArray.filter (fun x => x.hash == e.hash)).size ≤ 1 := by
  have key : ∀ hh : Int, (es.filter (fun x => x.hash == hh)).length ≤ 1 ∧ ((∀ x ∈ σ, (x.1 : Int) ≠ hh) → es.filter (fun x => x.hash == hh) = []) := by
    intro hh
    induction h2 with
    | nil => simp
    | @cons a t v p es r h1 h2 h3 ih =>
      rw [List.map_cons, List.nodup_cons] at nd
      have ih := ih nd.2
      rw [List.filter_cons]
      by_cases q : ((t : Int) == hh) = true
      · have q' := eq_of_beq q
        have e := ih.2 (fun x hx e => nd.1 (List.mem_map.mpr ⟨x, hx, by dsimp only; omega⟩))
        refine ⟨?_, fun hno => absurd q' (hno (t, p) (by simp))⟩
        simp only [q, if_true]
        rw [e]; simp
      · simp only [q, Bool.false_eq_true, if_false]
        exact ⟨ih.1, fun hno => ih.2 fun x hx => hno x (by simp [hx])⟩
  intro e he
  rw [← Array.length_toList, Array.toList_filter]
  exact (key e.hash).1
theorem Ents.keys {g : Heap} {es r} (x : Ents g es r) : ∀ e ∈ es, ∃ a t, e.key = .ref a ∧ IsVar g a t := by
  induction x with
  | nil => intro e h; cases h
  | cons h1 h2 _ ih =>
    intro e he
    rcases List.mem_cons.mp he with rfl | he
    · exact ⟨_, _, rfl, h1⟩
    · exact ih e he
section
variable {w : World} {mg mb : Str → Option Value} {A : Around} {E : Value → Shared → Prop} {s : Shared} {g : Heap}
theorem copy_sub {d : Nat} {σ : Sig} {es : List DictEntry} {ep : Nat} {Q : Value → Shared → Prop} (G : Gd w mg mb g) (hg : Sub g s.heap) (e1 : g.get? d = some (dictOf es ep)) (e2 : Ents g es σ) (nd : (σ.map (·.1)).Nodup) (hl : σ.length ≤ 1000)
    (hd : (d == sysModules) = false) (h : Q (.ref s.heap.objs.size) { s with heap := s.heap.push (dictOf es 0) }) :
    wpAny (model P0 w) A (call (.builtin "dict.copy") [.ref d]) Q E s := by
  have ho := hg _ _ e1
  have hT : s.TypeIs (.ref d) "dict" := ⟨_, ho, rfl⟩
  have hsz : es.toArray.size ≤ sizeLine + 1 := by rw [List.size_toArray, e2.len, sizeLine_eq]; omega
  have X := G.k.keeps hg
  refine wpAny_call_entry F.slot_dict_copy hT F.entry_dict_copy ?_ (F.args_dict_copy_1 _)
  have hne : ¬ ((d == sysModules) = true) := by rw [hd]; exact Bool.false_ne_true
  show wpAny _ _ (ite ((d == sysModules) = true) _ _) _ _ s
  rw [if_neg hne]
  show wpAny _ _ (Builtin.Dict.copyOf "dict.copy" (.ref d) >>= _) _ _ s
  refine wpAny_bind ?_
  unfold Builtin.Dict.copyOf
  refine wpAny_bind (wpAny_pure ?_)
  unfold Builtin.Dict.showsAll
  rw [if_neg (by rw [hd]; exact Bool.false_ne_true)]
  refine wpAny_bind (wpAny_pure ?_)
  refine wpAny_bind (wpAny_dictEntries ho rfl ?_)
  have fin : ∀ es' : Array DictEntry, es' = es.toArray → wpAny (model P0 w) A.in1 (do
      let __do_lift ← bearsInstanceDictMark d
      if __do_lift = true then
        (match (Value.ref s.heap.objs.size) with
          | .ref ca => do markAsInstanceDict ca; ret (Value.ref s.heap.objs.size)
          | _ => ret (Value.ref s.heap.objs.size))
      else ret (Value.ref s.heap.objs.size))
      (fun fin s' => ∃ v, fin = .done (.ret v) ∧ Q v s') E { s with heap := s.heap.push { cls := .type "dict", data := .dict es' } } := by
    rintro es' rfl
    unfold bearsInstanceDictMark
    refine wpAny_bind (wpAny_bind (wpAny_load (Heap.get?_push_of_some _ ho) (wpAny_pure ?_)))
    rw [show ((dictOf es ep).cls == Value.type "dict" && !(dictOf es ep).slots.isEmpty) = false from by simp, if_neg Bool.false_ne_true]
    exact wpAny_pure ⟨_, rfl, h⟩
  by_cases hemp : es.toArray.isEmpty = true
  · rw [if_pos hemp]
    refine wpAny_bind (wpAny_rule (wpAny_newObj_type ?_))
    exact fin #[] (Array.isEmpty_iff.mp hemp).symm
  · rw [if_neg hemp]
    refine wpAny_bind ?_
    unfold Builtin.Dict.readDirectly
    refine wpAny_bind (wpAny_isInstance hT isSubtype_dict_dict ?_)
    simp only [Bool.not_true, Bool.false_eq_true, if_false]
    refine wpAny_bind (wpAny_specialOf hT F.slot_dict_iter.lookup (wpAny_pure ?_))
    simp only [beq_self_eq_true, if_true]
    refine wpAny_bind ?_
    unfold Builtin.Dict.entriesForEmpty
    refine wpAny_bind (wpAny_dictEntries ho rfl (wpAny_bind ?_))
    have end_ : wpAny (model P0 w) A.in1 (pure es.toArray) (fun r s' => wpAny (model P0 w) A.in1 (newObj (.type "dict") (.dict r)) (fun c s'' => wpAny (model P0 w) A.in1 (do
      let __do_lift ← bearsInstanceDictMark d
      if __do_lift = true then
        (match c with
          | .ref ca => do markAsInstanceDict ca; ret c
          | _ => ret c)
      else ret c) (fun fin s' => ∃ v, fin = .done (.ret v) ∧ Q v s') E s'') E s') E s := wpAny_pure (wpAny_newObj_type (fin es.toArray rfl) hsz)
    rw [← Array.forIn_toList]
    refine wpAny_forIn_list _ (fun rest _ s' => s' = s ∧ ∀ e ∈ rest, e ∈ es) _ ?_ ?_ _ _ ⟨rfl, fun e he => by simpa using he⟩
    · rintro e rest _ s' ⟨rfl, hr⟩
      have he : e ∈ es := hr e (by simp)
      obtain ⟨a, t, hk, ha⟩ := e2.keys e he
      obtain ⟨ox, od, I⟩ := (ha.up hg).inst
      have hf := filter_le_one e2 nd e he
      have L : Looks (model P0 w) s'.heap (Builtin.Dict.quietEq e.key) false := by
        rw [hk]
        unfold Builtin.Dict.quietEq
        exact Looks.andThen (a := some (.ref 175)) (I.type.andThen (looks_findIn X (by k_is))) .now
      refine wpAny_bind (L.here ?_)
      simp only [Bool.not_false, if_true]
      rw [if_neg (by omega)]
      exact wpAny_pure ⟨rfl, fun x hx => hr x (by simp [hx])⟩
    · rintro _ s' ⟨rfl, _⟩
      exact end_
theorem look_none' {σ : Sig} {t : Nat} (h : look σ (.var t) = none) : ∀ x ∈ σ, x.1 ≠ t := by
  simp only [look, Option.map_eq_none_iff, List.find?_eq_none, beq_iff_eq] at h
  exact h
theorem set_sub {d : Nat} {σ : Sig} {es : List DictEntry} {ep : Nat} {a : Addr} {t : Nat} {v : Value} {Q : Unit → Shared → Prop} (G : Gd w mg mb g) (hg : Sub g s.heap) (hroom : Rm 3 A)
    (e1 : g.get? d = some (dictOf es ep)) (e2 : Ents g es σ) (nd : (σ.map (·.1)).Nodup) (sm : ∀ x ∈ σ, x.1 < 32) (hl : σ.length ≤ 1000) (big : 185 < d) (ha : IsVar g a t) (ht : t < 32) (hno : look σ (.var t) = none)
    (h : ∀ h1 h2 tk', Ext g s.heap g h1 → Heap.SameBut d h1 h2 → h2.get? d = some (dictOf (es ++ [⟨(t : Int), .ref a, v⟩]) (ep + 1)) → Q () { s with heap := h2, toks := tk' }) :
    wpAny (model P0 w) A (setItem (.ref d) (.ref a) v) Q E s := by
  have hT : s.TypeIs (.ref d) "dict" := ⟨_, hg _ _ e1, rfl⟩
  have hno' := look_none' hno
  unfold setItem
  refine wpAny_holding (wpAny_bind (wpAny_sequenceKey hT (by decide) ?_))
  refine wpAny_bind (wpAny_callSpecial?_slot (name := Str.ofString "__setitem__") hT slot_dict_setitem
    (wpAny_call_entry slot_dict_setitem hT entry_dict_setitem ?_ (args_dict_setitem _ _ _)))
  show wpAny _ _ (Builtin.Dict.notOrdered "__setitem__" ⟨[.ref d, .ref a, v], []⟩ >>= _) _ _ s
  refine wpAny_bind (wpAny_notOrdered_dict hT ?_)
  show wpAny _ _ (dictSet d (.ref a) v >>= _) _ _ s
  refine wpAny_bind ?_
  unfold dictSet
  refine wpAny_holding (wpAny_bind (pyHash_var G hg hroom.in1 ha (Nat.lt_trans ht (by decide)) fun h1 tk1 x1 => ?_))
  unfold dictSetHashed
  have hd : IsSub g d σ := ⟨⟨es, ep, e1, e2⟩, nd, sm, big⟩
  refine wpAny_holding (wpAny_bind (dictFind_none (s := { s with heap := h1, toks := tk1 }) (p := .var t) x1.gh hd (.var ha) (fun x hx e => hno' x hx (by omega)) (fun t' e => by cases e; rfl) ?_))
  refine wpAny_bind (wpAny_rule (wpAny_updateDictKeys (hz := by rw [List.size_toArray, e2.len, sizeLine_eq]; omega) (x1.gh _ _ e1) rfl ?_))
  refine wpAny_pure ⟨_, rfl, wpAny_pure (h h1 _ _ x1 (Heap.SameBut.update ..) ?_)⟩
  rw [Heap.get?_update_self _ (x1.gh _ _ e1) rfl]
  show some _ = some _
  congr 1
  show Obj.mk _ _ (.dict _ _) _ = Obj.mk _ _ (.dict _ _) _
  congr 2
  simp
end
end Mine
end
section
open PySem PySem.W PySem.Calls PyProof.Rows
set_option maxRecDepth 100000
set_option maxHeartbeats 4000000
namespace Mine
section
variable {w : World} {mg mb : Str → Option Value} {A : Around} {E : Value → Shared → Prop} {s : Shared} {g : Heap}
theorem Gd.big (G : Gd w mg mb g) {h : Heap} (hg : Sub g h) : 185 < h.objs.size := Heap.lt_size (hg _ _ (G.k 185 _ (by k_is)))
theorem dict_meth_copy {d : Addr} {o : Obj} {pl : Sem Bool} {Q : Value × List Value → Shared → Prop} (ho : s.heap.get? d = some o) (hc : o.cls = .type "dict") (hn : o.dict = none) (h : Q (.builtin "dict.copy", [.ref d]) s) :
    wpAny (model P0 w) A (getMethod (.ref d) "copy" pl) Q E s :=
  getMethod_builtin ⟨o, ho, hc⟩ F.plainAttrs_dict F.slot_dict_copy F.type_dict_copy (fun a e => by injection e with e; subst e; exact ⟨o, ho, hn⟩) h
theorem Ents.snoc {g : Heap} {es σ} (x : Ents g es σ) {a : Addr} {t : Nat} {v : Value} {p : Part} (ha : IsVar g a t) (hv : IsPart g v p) : Ents g (es ++ [⟨(t : Int), .ref a, v⟩]) (σ ++ [(t, p)]) := by
  induction x with
  | nil => exact .cons ha hv .nil
  | cons h1 h2 _ ih => exact .cons h1 h2 ih
theorem assoc_spec {d : Nat} {σ : Sig} {a : Addr} {t : Nat} {v : Value} {p : Part} {Q : Value → Shared → Prop} (G : Gd w mg mb g) (hg : Sub g s.heap) (hroom : Rm 5 A)
    (hd : IsSub g d σ) (hl : σ.length ≤ 1000) (ha : IsVar g a t) (ht : t < 32) (hno : look σ (.var t) = none) (hv : IsPart g v p)
    (h : ∀ g' h' tk' D, Ext g s.heap g' h' → IsSub g' D (σ ++ [(t, p)]) → Q (.ref D) { s with heap := h', toks := tk' }) :
    wpAny (model P0 w) A (call (.ref 204) [.ref d, .ref a, v] []) Q E s := by
  refine wpAny_call ?_
  refine callZ G hg hroom.depth (binds := [("s", .ref d), ("u", .ref a), ("v", v)]) (by k_is) (by k_is) (BindsTo.of_eq rfl) (by decide) (locs rfl) (fun L h₁ F => ?_)
  dsimp only
  obtain ⟨⟨es, ep, e1, e2⟩, nd, sm, big⟩ := hd
  refine wpAny_execs_cons (wpAny_Assign_Name (methodCall_KW (ldZ F rfl ?_)))
  dsimp only
  refine dict_meth_copy (o := dictOf es ep) (F.x.gh _ _ e1) rfl rfl ?_
  refine callWith_builtin rfl (evalArgs_nil3 ?_)
  dsimp only [List.nil_append, List.cons_append]
  refine copy_sub G F.x.gh e1 e2 nd hl (not_sys big) ?_
  dsimp only
  have k1 : Sub h₁ (h₁.push (dictOf es 0)) := fun a o e => Heap.get?_push_of_some _ e
  have sz1 : (h₁.push (dictOf es 0)).objs.size = h₁.objs.size + 1 := Heap.size_push ..
  have dD : (h₁.push (dictOf es 0)).get? h₁.objs.size = some (dictOf es 0) := Heap.get?_push_size _ rfl
  have F2 := F.keeps k1 (by omega)
  have hLs := F.lt
  have hbig := G.big F.x.gh
  have hs0 := F.x.sz
  generalize h₁.push (dictOf es 0) = h₂ at *
  generalize hD : h₁.objs.size = D at *
  refine stZ F2 (fun h₃ F3 sb3 => ?_)
  dsimp only
  have dD3 : h₃.get? D = some (dictOf es 0) := (sb3.2 _ (neN (by omega))).trans dD
  refine wpAny_execs_cons (wpAny_Assign_Subscript (ldZ F3 rfl (ldZ F3 rfl (ldZ F3 rfl ?_))))
  obtain ⟨g', F4, sub, yes, no⟩ := F3.freeze (fun a => a = D) (fun a ha => by rw [ha]; omega) (fun q => by have q' : @Eq Nat L _ := q; omega)
  have gD : g'.get? D = some (dictOf es 0) := (yes _ rfl).trans dD3
  refine set_sub (G.up sub) F4.x.gh (Rm.le hroom.deeper (by omega)) gD (e2.up sub) nd sm hl (by omega) (ha.up sub) ht hno (fun h4 h5 tk' x4 sb5 hD5 => ?_)
  dsimp only
  have F5 := F3.ext (g' := g) (h' := h4) ⟨Sub.refl _, sub.trans x4.gh, x4.hh, fun _ _ => rfl, x4.sz⟩
  have gDn : g.get? D = none := hg.none hs0
  have F6 := F5.at sb5 hs0 gDn (by omega)
  refine wpAny_execs_cons (wpAny_Return_some (ldZ F6 rfl ?_))
  dsimp only
  obtain ⟨g'', F7, sub7, yes7, no7⟩ := F6.freeze (fun a => a = D) (fun a ha => by rw [ha]; omega) (fun q => by have q' : @Eq Nat L _ := q; omega)
  refine h g'' h5 _ D F7.x ⟨⟨_, _, (yes7 _ rfl).trans hD5, (e2.up sub7).snoc (ha.up sub7) (hv.up sub7)⟩, ?_, ?_, by omega⟩
  · rw [List.map_append, List.nodup_append]
    refine ⟨nd, by simp, ?_⟩
    intro x hx y hy e
    simp at hy
    subst hy e
    obtain ⟨z, hz, e⟩ := List.mem_map.mp hx
    exact look_none' hno z hz e
  · intro x hx
    rcases List.mem_append.mp hx with hx | hx
    · exact sm x hx
    · simp at hx; subst hx; exact ht
end
end Mine
end
section
open PySem PySem.W PySem.Calls PyProof.Rows
set_option maxRecDepth 100000
set_option maxHeartbeats 4000000
namespace Mine
theorem Fz.base {g h h2 g' h' : Heap} {L : Nat} {m} (F : Fz g h2 g' h' L m) {g0 : Heap} (x : Ext g0 h g h2) : Fz g0 h g' h' L m :=
  ⟨x.trans F.x, F.ns, Nat.le_trans x.sz F.own, F.off⟩
theorem Ext.back {g h g1 h' : Heap} (x : Ext g h g1 h') : Ext g h g h' := ⟨Sub.refl _, x.gg.trans x.gh, x.hh, fun _ _ => rfl, x.sz⟩
section
variable {w : World} {mg mb : Str → Option Value} {A : Around} {E : Value → Shared → Prop} {s : Shared} {g : Heap}
/-- a call of a plain def of the text whose binding lays a tuple -/
theorem callV {R : Result → Shared → Prop} {f : Addr} {oc : Value} {od : Option Addr} {osl : Array (Option Value)} {name qual : Str} {params : Arguments} {body : List Stmt} {scope : Scope} {cl : List (Str × Addr)} {dV kV doc pm cdv ct : Value} {an : Option Addr} {args : Args} {binds : List (Str × Value)} {o : Obj}
    (G : Gd w mg mb g) (hg : Sub g s.heap) (hroom : A.depth < recursionLimit)
    (ho : (hd.heap_39 w.params).lookup f = some ⟨oc, od, .func (fnX name qual params body scope cl dV kV doc pm an cdv ct), osl⟩) (hcd : codeIn (hd.heap_39 w.params) cdv qual = true)
    (hbind : ∀ (Q : List (Str × Value) → Shared → Prop) (E : Value → Shared → Prop), Q binds { s with heap := s.heap.push o } → wpAny (model P0 w) A.in1 (bindArgs (fnX name qual params body scope cl dV kV doc pm an cdv ct) args) Q E s)
    (hcell : ∀ x ∈ scope.names, x.2 ≠ .cell) (hloc : ∀ x ∈ binds, scope.names.lookup x.1 = some .local)
    (h : ∀ (L : Nat) h₁, Fz g s.heap g h₁ L (fun x => binds.reverse.lookup x) →
      wpAny (model P0 w) (A.deeper (envX qual scope L f cdv cl)) (execs body (envX qual scope L f cdv cl)) (fun fl s' => R (.ok (.ret (match fl with | .ret v => v | _ => .none))) s') (fun _ _ => False)
        { s with heap := h₁, toks := s.toks + binds.length })
    (hco : scope.isCoroutine = false := by rfl) (hgen : scope.isGenerator = false := by rfl) (hk : scope.kind = .function := by rfl) :
    codeAny (model P0 w) A (.call (.ref f) args) R s := by
  have G' := G.up hg
  refine codeAny_call_function hroom (G'.k _ _ ho) rfl hco hgen rfl (codeRec_of G'.k hcd) (hbind _ _ ?_)
  have old0 : Sub s.heap (s.heap.push o) := fun a p e => Heap.get?_push_of_some _ e
  have sz0 : (s.heap.push o).objs.size = s.heap.objs.size + 1 := Heap.size_push ..
  refine wpAny_newFunctionEnv hcell hloc (fun h₁ hns hsb => ⟨(G'.lim.keeps old0).fresh _ hsb, codeAny_func ?_⟩) hk
  dsimp only at hns hsb
  have old : Sub s.heap h₁ := fun b p e => hsb.extBut b p (Nat.ne_of_lt (Heap.lt_size (old0 _ _ e))) (Heap.get?_push_of_some _ (old0 _ _ e))
  have sz : h₁.objs.size = s.heap.objs.size + 2 := by rw [hsb.1, Heap.size_push, sz0]
  refine wpAny_mono (h (s.heap.push o).objs.size h₁ ⟨⟨Sub.refl _, hg.trans old, old, fun _ _ => rfl, by omega⟩, hns, by omega, ?_⟩) (fun _ _ y => y) (fun _ _ y => y.elim)
  exact hg.none (by omega)
theorem setNew {h₀ : Heap} {L : Nat} {m : Str → Option Value} {C : Addr} {x dx : Nat} {name : Str} {v : Value} {Q : Unit → Shared → Prop} (F : Fz g h₀ g s.heap L m) (X₀ : (hd.heap_39 w.params).In h₀)
    (di : s.heap.get? x = some (instObj C dx)) (dd : s.heap.get? dx = some (dictOf [] 0)) (h1 : h₀.objs.size ≤ dx) (h2 : h₀.objs.size ≤ x) (n1 : dx ≠ L) (n2 : x ≠ L) (n3 : x ≠ dx) (hg0 : Sub g h₀)
    (hs : findIn (hd.heap_39 w.params) (.ref C) "__setattr__" = some (some (.builtin "object.__setattr__"))) (hp : plainOver (hd.heap_39 w.params) C = true) (ht : takerIn (hd.heap_39 w.params) C name = some none) (hh : hasDictIn (hd.heap_39 w.params) C = true)
    (hl : (getL name []).isSome = true) (e : ∀ tk, (putL name (PyData.keyHash w.params name) (.str name tk) v [], putN name [] 0) = ([⟨PyData.keyHash w.params name, .str name tk, v⟩], 1))
    (h : ∀ h' tk, Fz g h₀ g h' L m → h'.get? x = some (instObj C dx) → h'.get? dx = some (dictOf [⟨PyData.keyHash w.params name, .str name tk, v⟩] 1) → Q () { s with heap := h', toks := s.toks + 2 }) :
    wpAny (model P0 w) A (setAttr (.ref x) name v) Q E s := by
  have N : News h₀ L s.heap [(x, instObj C dx), (dx, dictOf [] 0)] := by
    intro p hp
    simp only [List.mem_cons, List.mem_nil_iff, or_false] at hp
    rcases hp with rfl | rfl
    · exact ⟨di, n2, get_size_none h2⟩
    · exact ⟨dd, n1, get_size_none h1⟩
  refine set_dict (K := hd.heap_39 w.params) (es := []) (n := 0) (es' := [⟨PyData.keyHash w.params name, .str name (s.toks + 1), v⟩]) (n' := 1) F.fr X₀ N (⟨di, rfl, rfl, dd⟩ : W.InstAt s.heap _ _ C (some (dictOf [] 0))) rfl hs hp ht hh hl (e _) (.tail n3 (.head fun _ h => nomatch h)) (Nat.le_of_ble_eq_true rfl) (fun h₄ F4 N4 => ?_)
  have e1 := (N4 _ (.head _)).1
  have e2 := (N4 _ (.tail _ (.head _))).1
  dsimp only at e1 e2
  exact h h₄ _ ⟨⟨Sub.refl g, hg0.trans F4.keep, F4.keep, fun _ _ => rfl, Nat.le_of_lt (Nat.lt_of_le_of_lt F.own F4.ns.lt)⟩, F4.ns, F.own, F.off⟩ e1 e2
theorem sup_make {R : Result → Shared → Prop} (G : Gd w mg mb g) (hg : Sub g s.heap) (hroom : A.depth + 1 < recursionLimit)
    (h : ∀ g' h' tk x dx od, Ext g s.heap g' h' → g'.get? x = some (instObj 135 dx) → g'.get? dx = some od → R (.ok (.ret (.ref x))) { s with heap := h', toks := tk }) :
    codeAny (model P0 w) A (.call (.ref 135) ⟨[.type "TypeError"], []⟩) R s := by
  have X := G.k.keeps hg
  obtain ⟨hh, gn, dr, tk, os⟩ := s
  have Y : Makes (model P0 w) hh 135 := makes_of X (by k_is)
  refine make_core Y (looks_findIn X (r := some (.ref 118)) (by k_is)) (fun self => bind_fn X self (by k_is)) (.inl rfl) ?_
  dsimp only at hg X
  have k2 : Sub hh ((hh.push emptyDict).push (instObj 135 hh.objs.size)) := fun a o e => Heap.get?_push_of_some _ (Heap.get?_push_of_some _ e)
  have sz1 : (hh.push emptyDict).objs.size = hh.objs.size + 1 := Heap.size_push ..
  have sz2 : ((hh.push emptyDict).push (instObj 135 hh.objs.size)).objs.size = hh.objs.size + 2 := by rw [Heap.size_push, sz1]
  have d1 : ((hh.push emptyDict).push (instObj 135 hh.objs.size)).get? hh.objs.size = some emptyDict := Heap.get?_push_of_some _ (Heap.get?_push_size _ rfl)
  have d2 : ((hh.push emptyDict).push (instObj 135 hh.objs.size)).get? (hh.objs.size + 1) = some (instObj 135 hh.objs.size) := by rw [← sz1]; exact Heap.get?_push_size _ rfl
  generalize (hh.push emptyDict).push (instObj 135 hh.objs.size) = h₂ at *
  refine callV (s := ⟨h₂, gn, dr, tk, os⟩) G (hg.trans k2) hroom (binds := [("self", .ref (hh.objs.size + 1)), ("exceptions", .ref h₂.objs.size)]) (o := { cls := .type "tuple", data := .seq #[.type "TypeError"] }) (by k_is) (by k_is) (fun Q E q => ev_to (G.k.keeps (hg.trans k2)) q (by kernel_rfl)) (by decide) (locs rfl) (fun L h₁ F => ?_)
  dsimp only
  have f1 : h₁.get? hh.objs.size = some emptyDict := F.x.hh _ _ d1
  have f2 : h₁.get? (hh.objs.size + 1) = some (instObj 135 hh.objs.size) := F.x.hh _ _ d2
  have own : h₂.objs.size ≤ L := F.own
  replace F := F.base (g0 := g) (h := hh) ⟨Sub.refl _, hg.trans k2, k2, fun _ _ => rfl, by (try dsimp only); omega⟩
  refine wpAny_execs_cons (plainObj_wpAny_Assign_Attribute ?_)
  refine ldZ F rfl (ldZ F rfl ?_)
  refine setNew F X f2 f1 (Nat.le_refl _) (Nat.le_succ _) ?_ ?_ (neN (by omega)) hg (by k_is) (by k_is) (by k_is) (by k_is) rfl (fun _ => rfl) (fun h₄ tk4 F4 e1 e2 => ?_)
  · exact neN (by omega)
  · exact neN (by omega)
  dsimp only
  refine wpAny_execs_nil ?_
  obtain ⟨g', F6, sub, yes, -⟩ := F4.freeze (fun a => a = hh.objs.size ∨ a = hh.objs.size + 1) (fun a ha => by rcases ha with rfl | rfl <;> omega) (fun q => by rcases q with q | q <;> (have q' : @Eq Nat L _ := q; omega))
  exact And.intro rfl (h g' h₄ _ _ _ _ F6.x ((yes _ (.inr rfl)).trans e1) ((yes _ (.inl rfl)).trans e2))
end
end Mine
end
section
open PySem PySem.W PySem.Calls PyProof.Rows
set_option maxRecDepth 100000
set_option maxHeartbeats 4000000
namespace Mine
/-- p leads to r in n steps -/
inductive Chain (σ : Sig) : Nat → Part → Part → Prop
  | stop {p} : look σ p = none → Chain σ 0 p p
  | step {n p q r} : look σ p = some q → Chain σ n q r → Chain σ (n + 1) p r
theorem look_small {σ : Sig} (hs : ∀ x ∈ σ, x.2.small) {p q : Part} (h : look σ p = some q) : q.small := by
  cases p with
  | num _ => cases h
  | var t =>
    simp only [look, Option.map_eq_some_iff] at h
    obtain ⟨x, hx, rfl⟩ := h
    exact hs x (List.mem_of_find?_eq_some hx)
section
variable {w : World} {mg mb : Str → Option Value} {A : Around} {E : Value → Shared → Prop} {s : Shared} {g : Heap}
theorem enter_spec {x : Value} {Q : Value → Shared → Prop} (G : Gd w mg mb g) (hg : Sub g s.heap) (hroom : Rm 1 A)
    (h : ∀ h' tk', Ext g s.heap g h' → Q .none { s with heap := h', toks := tk' }) : wpAny (model P0 w) A (call (.ref 125) [x] []) Q E s := by
  refine wpAny_call ?_
  refine callZ G hg hroom.depth (binds := [("self", x)]) (by k_is) (by k_is) (BindsTo.of_eq rfl) (by decide) (locs rfl) (fun L h₁ F => ?_)
  refine wpAny_execs_cons (wpAny_Pass ?_)
  exact wpAny_execs_nil (h _ _ F.x)
theorem exit_spec {x : Value} {Q : Value → Shared → Prop} (G : Gd w mg mb g) (hg : Sub g s.heap) (hroom : Rm 1 A)
    (h : ∀ h' tk', Ext g s.heap g h' → Q .none { s with heap := h', toks := tk' }) : wpAny (model P0 w) A (call (.ref 132) [x, .none, .none, .none] []) Q E s := by
  refine wpAny_call ?_
  refine callZ G hg hroom.depth (binds := [("self", x), ("exctype", .none), ("excinst", .none), ("exctb", .none)]) (by k_is) (by k_is) (BindsTo.of_eq rfl) (by decide) (locs rfl) (fun L h₁ F => ?_)
  refine wpAny_execs_cons (wpAny_If (wpAny_isTrue_Compare1 (ldZ F rfl (wpAny_Constant_none (wpAny_is_self rfl (wpAny_truthy_bool ?_))))))
  simp only [if_true]
  exact wpAny_execs_cons (wpAny_Return_none (h _ _ F.x))
theorem tget_spec {d : Nat} {σ : Sig} {n : Nat} {v : Value} {p r : Part} {Q : Value → Shared → Prop} (G : Gd w mg mb g) (hg : Sub g s.heap) (hroom : Rm 5 A)
    (hD : IsSub g d σ) (hs : ∀ x ∈ σ, x.2.small) (hv : IsPart g v p) (hp : p.small) (hc : Chain σ n p r)
    (h : ∀ h' tk' v', Ext g s.heap g h' → IsPart g v' r → r.small → look σ r = none → Q v' { s with heap := h', toks := tk' }) :
    wpAny (model P0 w) A (call (.ref 146) [v, .ref d] []) Q E s := by
  refine wpAny_call ?_
  refine callZ G hg hroom.depth (binds := [("key", v), ("d", .ref d)]) (by k_is) (by k_is) (BindsTo.of_eq rfl) (by decide) (locs rfl) (fun L h₁ F => ?_)
  dsimp only
  refine wpAny_execs_cons (kw_exec0 ?_)
  refine Call_Name rfl (nameG G F.x.gh (by k_is) ?_)
  refine callWith_K G.k (by k_is) (spliced_more (nameB (v := .type "TypeError") G F.x.gh (by k_is) (by first | boot_fast | kernel_rfl) (by decide) (spliced_none ?_)))
  refine ⟨G.k.keeps F.x.gh, ?_⟩
  dsimp only [List.nil_append]
  have dp := hroom.1
  refine wpAny_call (sup_make G F.x.gh (by rw [depth_deeper]; omega) (fun g1 h2 tk2 x dx od x1 e1 e2 => ?_))
  have F1 := F.ext x1
  have G1 := G.up F1.x.gg
  dsimp only
  refine kw_in0 (K := hd.heap_39 w.params) F1.fr (G.k.keeps hg) (⟨F1.x.gh _ _ e1, rfl, rfl, F1.x.gh _ _ e2⟩ : W.InstAt h2 x _ 135 (some od)) (fe := 125) (fx := 132) (by k_is) (by k_is) (by k_is) (by k_is) ?_
  refine enter_spec G1 F1.x.gh (Rm.le hroom.deeper (by omega)) (fun h3 tk3 x3 => ?_)
  have F3 := F1.ext x3
  dsimp only
  refine wpAny_execs_cons (wpAny_While ?_)
  refine codeAny_whileLoop (fun n s' => ∃ h' tk v' p' m', s' = { s with heap := h', toks := tk } ∧ Fz g s.heap g1 h' L m' ∧ m' "key" = some v' ∧ m' "d" = some (.ref d) ∧ IsPart g v' p' ∧ p'.small ∧ Chain σ n p' r) ?_ n ⟨_, _, v, p, _, rfl, F3, rfl, rfl, hv, hp, hc⟩
  rintro n s' ⟨h', tk, v', p', m', rfl, F', mk, md, hv', hp', hc'⟩
  have hv1 := hv'.up F'.x.gg
  have hd1 := hD.up F'.x.gg
  refine wpAny_isTrue_Compare1 (ldZ F' mk (ldZ F' md (in_sub G1 F'.x.gh (Rm.le hroom.deeper (by omega)) hd1 hv1 hp' (fun h4 tk4 x4 => wpAny_truthy_bool ?_))))
  have F4 := F'.ext x4
  dsimp only
  cases hc' with
  | stop hl =>
    rw [hl]
    simp only [Option.isSome_none, Bool.false_eq_true, if_false]
    refine wpAny_execs_nil (wpAny_execs_nil ?_)
    refine exit_spec G1 F4.x.gh (Rm.le hroom.deeper (by omega)) (fun h5 tk5 x5 => ?_)
    have F5 := F4.ext x5
    dsimp only
    refine wpAny_execs_cons (wpAny_Return_some (ldZ F5 mk ?_))
    exact h _ _ _ F5.x.back hv' hp' hl
  | @step n' _ q _ hl hq =>
    rw [hl]
    simp only [Option.isSome_some, if_true]
    refine wpAny_execs_cons (wpAny_Assign_Name ?_)
    refine Subscript_ (ldZ F4 md (ldZ F4 mk ?_))
    refine tail_any (hd1.typeIs F4.x.gh) slot_dict_getitem.lookup ?_ (by with_unfolding_all rfl)
    refine get_sub G (F4.x.gg.trans F4.x.gh) (Rm.le hroom.deeper (by omega)) hD hv' hp' hl (fun h5 tk5 v5 x5 hv5 => ?_)
    have F5 := F4.keeps x5.hh x5.sz
    dsimp only
    refine stZ F5 (fun h6 F6 sb6 => ?_)
    dsimp only
    refine wpAny_execs_nil ⟨n', Nat.lt_succ_self _, h6, _, v5, q, _, rfl, F6, rfl, md, hv5, look_small hs hl, hq⟩
end
end Mine
end
section
open PySem PySem.W PySem.Calls PyProof.Rows
set_option maxRecDepth 100000
set_option maxHeartbeats 4000000
namespace Mine
/-- an instance of Generator over the rows v -/
def IsGenr (g : Heap) (x : Nat) (v : Value) : Prop := ∃ (dx : Nat) (hs : Int) (tk : Tok) (n : Nat), g.get? x = some (instObj 38 dx) ∧ g.get? dx = some (dictOf [⟨hs, .str "rows" tk, v⟩] n)
theorem IsGenr.up {g g' : Heap} {x v} (h : IsGenr g x v) (s : Sub g g') : IsGenr g' x v := by
  obtain ⟨dx, hs, tk, n, e1, e2⟩ := h
  exact ⟨dx, hs, tk, n, s _ _ e1, s _ _ e2⟩
/-- a generator's object -/
def IsG (g : Heap) (z n : Nat) : Prop := ∃ nm qn, g.get? z = some { cls := .type "generator", data := .fields #[.int n 0, nm, qn] }
theorem IsG.up {g g' : Heap} {z n : Nat} (h : IsG g z n) (s : Sub g g') : IsG g' z n := let ⟨nm, qn, e⟩ := h; ⟨nm, qn, s _ _ e⟩
theorem IsG.isGen {g : Heap} {z n : Nat} (h : IsG g z n) : g.IsGen z n := let ⟨nm, qn, e⟩ := h; ⟨_, nm, qn, e, rfl, rfl, rfl⟩
section
variable {w : World} {mg mb : Str → Option Value} {A : Around} {E : Value → Shared → Prop} {s : Shared} {g : Heap}
/-- a call of a generator's def -/
theorem callG {R : Result → Shared → Prop} {f : Addr} {oc : Value} {od : Option Addr} {osl : Array (Option Value)} {name qual : Str} {params : Arguments} {body : List Stmt} {scope : Scope} {cl : List (Str × Addr)} {dV kV doc pm cdv ct : Value} {an : Option Addr} {args : Args} {binds : List (Str × Value)}
    (G : Gd w mg mb g) (hg : Sub g s.heap) (hroom : A.depth < recursionLimit)
    (ho : (hd.heap_39 w.params).lookup f = some ⟨oc, od, .func (fnX name qual params body scope cl dV kV doc pm an cdv ct), osl⟩) (hcd : codeIn (hd.heap_39 w.params) cdv qual = true)
    (hbind : BindsTo s (fnX name qual params body scope cl dV kV doc pm an cdv ct) args binds)
    (hcell : ∀ x ∈ scope.names, x.2 ≠ .cell) (hloc : ∀ x ∈ binds, scope.names.lookup x.1 = some .local)
    (h : ∀ (L z : Nat) g' h' tk, Ext g s.heap g' h' → IsG g' z s.gens.size → h'.Ns L (fun x => binds.reverse.lookup x) → g'.get? L = none → s.heap.objs.size ≤ L →
      R (.ok (.ret (.ref z))) { s with heap := h', toks := tk, gens := s.gens.push (.fresh (.func body (envX qual scope L f cdv cl))) })
    (hco : scope.isCoroutine = false := by rfl) (hgen : scope.isGenerator = true := by rfl) (hk : scope.kind = .function := by rfl) :
    codeAny (model P0 w) A (.call (.ref f) args) R s := by
  have G' := G.up hg
  refine codeAny_call_generator hroom (G'.k _ _ ho) rfl hco hgen rfl (codeRec_of G'.k hcd) (hbind _ _ _ _ ?_)
  refine wpAny_newFunctionEnv hcell hloc (fun h₁ hns hsb => ⟨G'.lim.fresh _ hsb, ?_⟩) hk
  dsimp only at hns hsb ⊢
  have old : Sub s.heap h₁ := fun b p e => hsb.extBut b p (Nat.ne_of_lt (Heap.lt_size e)) (Heap.get?_push_of_some _ e)
  have sz : h₁.objs.size = s.heap.objs.size + 1 := by rw [hsb.1, Heap.size_push]
  have hgn : g.get? s.heap.objs.size = none := hg.none (Nat.le_refl _)
  have F1 : Fz g s.heap g h₁ s.heap.objs.size _ := ⟨⟨Sub.refl _, hg.trans old, old, fun _ _ => rfl, by omega⟩, hns, Nat.le_refl _, hgn⟩
  generalize ho1 : ({ cls := .type "generator", data := .fields #[.int s.gens.size 0, .str name (s.toks + binds.length), .str qual (s.toks + binds.length + 1)] } : Obj) = o1
  have F2 := F1.keeps (h' := h₁.push o1) (fun b p e => Heap.get?_push_of_some _ e) (by rw [Heap.size_push]; omega)
  have dz : (h₁.push o1).get? h₁.objs.size = some o1 := Heap.get?_push_size _ (by rw [← ho1]; rfl)
  obtain ⟨g', F3, sub, yes, no⟩ := F2.freeze (fun a => a = h₁.objs.size) (fun a ha => by rw [ha]; omega) (fun q => by have q' : @Eq Nat s.heap.objs.size _ := q; omega)
  exact h s.heap.objs.size h₁.objs.size g' (h₁.push o1) _ F3.x ⟨_, _, ((yes _ rfl).trans dz).trans (by rw [← ho1])⟩ F3.ns F3.off F3.own
theorem gen_make {R : Result → Shared → Prop} {v : Value} (G : Gd w mg mb g) (hg : Sub g s.heap) (hroom : A.depth + 1 < recursionLimit)
    (h : ∀ g' h' tk (x : Nat), Ext g s.heap g' h' → IsGenr g' x v → R (.ok (.ret (.ref x))) { s with heap := h', toks := tk }) :
    codeAny (model P0 w) A (.call (.ref 38) ⟨[v], []⟩) R s := by
  have X := G.k.keeps hg
  obtain ⟨hh, gn, dr, tk, os⟩ := s
  have Y : Makes (model P0 w) hh 38 := makes_of X (by k_is)
  refine make_core Y (looks_findIn X (r := some (.ref 35)) (by k_is)) (fun self => bind_fn X self (by k_is)) (.inl rfl) ?_
  dsimp only at hg X
  have k2 : Sub hh ((hh.push emptyDict).push (instObj 38 hh.objs.size)) := fun a o e => Heap.get?_push_of_some _ (Heap.get?_push_of_some _ e)
  have sz1 : (hh.push emptyDict).objs.size = hh.objs.size + 1 := Heap.size_push ..
  have sz2 : ((hh.push emptyDict).push (instObj 38 hh.objs.size)).objs.size = hh.objs.size + 2 := by rw [Heap.size_push, sz1]
  have d1 : ((hh.push emptyDict).push (instObj 38 hh.objs.size)).get? hh.objs.size = some emptyDict := Heap.get?_push_of_some _ (Heap.get?_push_size _ rfl)
  have d2 : ((hh.push emptyDict).push (instObj 38 hh.objs.size)).get? (hh.objs.size + 1) = some (instObj 38 hh.objs.size) := by rw [← sz1]; exact Heap.get?_push_size _ rfl
  generalize (hh.push emptyDict).push (instObj 38 hh.objs.size) = h₂ at *
  refine callZ (s := ⟨h₂, gn, dr, tk, os⟩) G (hg.trans k2) (by have : (A.under (.builtin "type.__call__" ⟨[.ref 38, v], []⟩)).depth = A.depth + 1 := depth_under_make _ _ _; omega) (binds := [("self", .ref (hh.objs.size + 1)), ("rows", v)]) (by k_is) (by k_is) (BindsTo.of_eq rfl) (by decide) (locs rfl) (fun L h₁ F => ?_)
  dsimp only
  have f1 : h₁.get? hh.objs.size = some emptyDict := F.x.hh _ _ d1
  have f2 : h₁.get? (hh.objs.size + 1) = some (instObj 38 hh.objs.size) := F.x.hh _ _ d2
  have own : h₂.objs.size ≤ L := F.own
  replace F := F.base (g0 := g) (h := hh) ⟨Sub.refl _, hg.trans k2, k2, fun _ _ => rfl, by (try dsimp only); omega⟩
  refine wpAny_execs_cons (plainObj_wpAny_Assign_Attribute ?_)
  refine ldZ F rfl (ldZ F rfl ?_)
  refine setNew F X f2 f1 (Nat.le_refl _) (Nat.le_succ _) ?_ ?_ (neN (by omega)) hg (by k_is) (by k_is) (by k_is) (by k_is) rfl (fun _ => rfl) (fun h₄ tk4 F4 e1 e2 => ?_)
  · exact neN (by omega)
  · exact neN (by omega)
  dsimp only
  refine wpAny_execs_nil ?_
  obtain ⟨g', F6, sub, yes, -⟩ := F4.freeze (fun a => a = hh.objs.size ∨ a = hh.objs.size + 1) (fun a ha => by rcases ha with rfl | rfl <;> omega) (fun q => by rcases q with q | q <;> (have q' : @Eq Nat L _ := q; omega))
  exact And.intro rfl (h g' h₄ _ _ F6.x ⟨_, _, _, _, (yes _ (.inr rfl)).trans e1, (yes _ (.inl rfl)).trans e2⟩)
end
end Mine
end
section
open PySem PySem.W PySem.Calls PyProof.Rows
set_option maxRecDepth 100000
set_option maxHeartbeats 4000000
namespace Mine
/-- g grows to g', h to h', the places of O aside -/
structure ExtO (O : Nat → Prop) (g h g' h' : Heap) : Prop where
  gg : Sub g g'
  gh : Sub g' h'
  hh : ∀ (a : Nat) o, ¬ O a → h.get? a = some o → h'.get? a = some o
  new : ∀ a : Nat, a < h.objs.size → g'.get? a = g.get? a
  sz : h.objs.size ≤ h'.objs.size
/-- a frame that stood at the entry -/
structure Gz (g₀ h₀ g h : Heap) (L : Nat) (m : Str → Option Value) : Prop where
  x : Ext g₀ h₀ g h
  ns : h.Ns L m
  own : h₀.get? L = none
  off : g.get? L = none
theorem Gz.lt {g₀ h₀ g h : Heap} {L : Nat} {m} (F : Gz g₀ h₀ g h L m) : L < h.objs.size := F.ns.lt
theorem Gz.set {g₀ h₀ g h h' : Heap} {L m m'} (F : Gz g₀ h₀ g h L m) (hn : h'.Ns L m') (hs : Heap.SameBut L h h') : Gz g₀ h₀ g h' L m' := by
  refine ⟨⟨F.x.gg, fun a o e => ?_, fun a o e => ?_, F.x.new, ?_⟩, hn, F.own, F.off⟩
  · rw [hs.2 a (fun q => by rw [q, F.off] at e; cases e)]; exact F.x.gh a o e
  · rw [hs.2 a (fun q => by rw [q, F.own] at e; cases e)]; exact F.x.hh a o e
  · rw [hs.1]; exact F.x.sz
theorem Gz.ext {g₀ h₀ g h g' h' : Heap} {L : Nat} {m} (F : Gz g₀ h₀ g h L m) (x : Ext g h g' h') : Gz g₀ h₀ g' h' L m :=
  ⟨F.x.trans x, F.ns.keeps x.hh, F.own, (x.new L F.lt).trans F.off⟩
theorem Gz.keeps {g₀ h₀ g h h' : Heap} {L : Nat} {m} (F : Gz g₀ h₀ g h L m) (x : Sub h h') (sz : h.objs.size ≤ h'.objs.size) : Gz g₀ h₀ g h' L m :=
  F.ext ⟨Sub.refl _, F.x.gh.trans x, x, fun _ _ => rfl, sz⟩
theorem only_sub {h : Heap} {p : Nat → Prop} : Sub (only h p) h := fun a o e => by
  by_cases q : p a
  · rw [only_yes q] at e; exact e
  · rw [only_no q] at e; cases e
theorem only_size {h : Heap} {p : Nat → Prop} : (only h p).objs.size = h.objs.size := by unfold only; exact Array.size_mapIdx
/-- a frame of a generator at its waking -/
theorem Gz.wake {g h : Heap} {L : Nat} {m} (O : Nat → Prop) (hg : Sub g h) (ns : h.Ns L m) (off : ∀ a, O a → g.get? a = none) (hO : O L) : Gz g (only h (fun a => ¬ O a)) g h L m :=
  ⟨⟨Sub.refl _, hg, only_sub, fun _ _ => rfl, by rw [only_size]; exact Nat.le_refl _⟩, ns, only_no (fun q => q hO), off L hO⟩
theorem Gz.exto {g h g' h' : Heap} {L : Nat} {m} {O : Nat → Prop} (F : Gz g (only h (fun a => ¬ O a)) g' h' L m) : ExtO O g h g' h' :=
  ⟨F.x.gg, F.x.gh, fun a o ha e => F.x.hh a o (by rw [only_yes ha]; exact e), fun a ha => F.x.new a (by rw [only_size]; exact ha), by have := F.x.sz; rw [only_size] at this; exact this⟩
section
variable {w : World} {mg mb : Str → Option Value} {A : Around} {E : Value → Shared → Prop} {s : Shared} {g₀ h₀ g : Heap} {L : Nat} {m : Str → Option Value} {env : Env} {x : Str} {pos : Pos} {v : Value}
theorem ldW {Q : Value → Shared → Prop} (F : Gz g₀ h₀ g s.heap L m) (hv : m x = some v) (h : Q v s)
    (hL : env.locals = L := by rfl) (hk : env.scope.kind = .function := by rfl) (hl : env.kindOf x = some .local := by rfl) (hd : (x == ("__debug__" : Str)) = false := by decide) :
    wpAny (model P0 w) A (eval (.Name x pos) env) Q E s := by
  subst hL; exact wpAny_Name (wpAny_loadName_local hk hl F.ns hv h) hd
theorem stW {Q : Unit → Shared → Prop} (F : Gz g₀ h₀ g s.heap L m)
    (h : ∀ h', Gz g₀ h₀ g h' L (fun y => if y = x then some v else m y) → Heap.SameBut L s.heap h' → Q () { s with heap := h', toks := s.toks + 1 })
    (hL : env.locals = L := by rfl) (hp : (env.scope.kind == .class || (env.scope.kind == .module && env.locals != env.globals)) = false := by rfl) (hl : env.kindOf x = some .local := by rfl) :
    wpAny (model P0 w) A (storeName env x v) Q E s := by
  subst hL; exact wpAny_storeName_local hl F.ns (fun h' hn hs => h h' (F.set hn hs) hs) hp
end
section
variable {w : World} {A : Around} {R : GenEnd} {Y : Protocol} {n : Nat} {s₀ : Shared} {c : Code} {fs : List Frame} {s : Shared} {env : Env}
  {K : Flow → Sem Fin} {H : Value → Sem Fin} {gd : Bool → Bool} {lv : List Value → List Value}
theorem seg_If {M : Model} {test : Expr} {body orelse : List Stmt} {pos : Pos}
    (h : wpAny M (A.over c fs) (isTrue test env (eval test env)) (fun b s' => Seg M A R Y n s₀ c ((execs (if b then body else orelse) env).wrap K H gd lv) fs s') (fun x s' => Seg M A R Y n s₀ c (H x) fs s') s) :
    Seg M A R Y n s₀ c ((exec (.If test body orelse pos) env).wrap K H gd lv) fs s := by
  rw [exec_If]
  rw [Sem.bind_eq_wrap', Sem.wrap_wrap]
  refine seg_wrap (wpAny_standAt ?_)
  rw [Sem.bind_eq_wrap', Sem.wrap_wrap]
  refine seg_wrap (wpAny_mono h (fun b s' hb => ?_) fun _ _ x => x)
  cases b <;> exact hb
theorem seg_step {M : Model} {st : Stmt} (h : wpAny M (A.over c fs) (exec st env) (fun a s' => Seg M A R Y n s₀ c (K a) fs s') (fun x s' => Seg M A R Y n s₀ c (H x) fs s') s) :
    Seg M A R Y n s₀ c ((exec st env).wrap K H gd lv) fs s := seg_wrap h
/-- a yield whose answer is dropped -/
theorem seg_Yield {e : Expr} {ypos pos : Pos} (hfs : splitAtGen fs = none) (hgd : gd false = false) (hfg : fs.any Frame.guarded = false)
    (h : wpAny (model P0 w) (A.over c fs) (eval e env) (fun v s' => ∀ kap : Resume → Shared → Prop,
        (∀ x s'', Seg (model P0 w) A R Y n s'' c (K .next) fs s'' → kap (.send x) s'') → Y n s₀ v s' kap)
      (fun x s' => Seg (model P0 w) A R Y (n + 1) s₀ c (H x) fs s') s) (hco : env.scope.isCoroutine = false := by rfl) (hi : interactive env = false := by rfl) :
    Seg (model P0 w) A R Y (n + 1) s₀ c ((exec (.Expr (.Yield (some e) ypos) pos) env).wrap K H gd lv) fs s := by
  rw [exec_Expr env _ pos hi rfl]
  show Seg (model P0 w) A R Y (n + 1) s₀ c (.at pos fun _ => ((eval e env >>= fun v => (standAt ypos >>= fun _ => yieldOut env v)) >>= fun x =>
    dropValue (.Yield (some e) ypos) pos x).wrap K H gd lv) fs s
  have hy : ∀ v, yieldOut env v = yieldValue v := fun v => by simp only [yieldOut, hco, Bool.false_eq_true, if_false]
  simp only [hy]
  refine seg_at ?_
  rw [Sem.bind_eq_wrap', Sem.bind_eq_wrap', Sem.wrap_wrap, Sem.wrap_wrap]
  refine seg_wrap (wpAny_mono h (fun v s' h' => ?_) fun _ _ x => x)
  refine seg_at (seg_yield hfs hgd hfg ?_)
  refine h' _ fun x s'' hx => ?_
  cases x with
  | ref a =>
    show Seg (model P0 w) A R Y n s'' c ((dropValue (.Yield (some e) ypos) pos (.ref a)).wrap K H gd lv) fs s''
    refine seg_wrap ?_
    show wpAny _ _ (standAt pos >>= fun _ => runValue (.builtin "proto.let_go" {}) >>= fun _ => (pure Flow.next : Sem Flow)) _ _ _
    exact wpAny_bind (wpAny_standAt (wpAny_bind (wpAny_runValue (codeAny_builtin entry_let_go (show wpAny _ _ (ret .none) _ _ s'' from wpAny_pure (wpAny_pure hx))))))
  | _ => exact hx
end
theorem Rm.over {k : Nat} {A : Around} {body : List Stmt} {env : Env} (h : Rm (k + 1) A) : Rm k (A.over (.func body env) []) := by
  unfold Rm at *
  have e1 : (A.over (.func body env) []).depth = A.depth + 1 := rfl
  have e2 : (A.over (.func body env) []).units = A.units + 3 := rfl
  rw [e1, e2]; omega
end Mine
end
section
open PySem PySem.W PySem.Calls PyProof.Rows
set_option maxRecDepth 100000
set_option maxHeartbeats 4000000
namespace Mine
/-- what a substitution, or a refusal, is as a value -/
inductive IsRes (g : Heap) : Value → Option Sig → Prop
  | no : IsRes g (.bool false) none
  | some {D : Nat} {σ : Sig} : IsSub g D σ → IsRes g (.ref D) (some σ)
theorem IsRes.up {g g' : Heap} {v r} (h : IsRes g v r) (s : Sub g g') : IsRes g' v r := by
  cases h with
  | no => exact .no
  | some x => exact .some (x.up s)
section
variable {w : World} {mg mb : Str → Option Value} {A : Around} {E : Value → Shared → Prop} {s : Shared} {g : Heap}
theorem unifyN_spec {i j : Int} {ti tj : Tok} {sv : Value} {Q : Value → Shared → Prop} (G : Gd w mg mb g) (hg : Sub g s.heap) (hroom : Rm 3 A)
    (h : ∀ h' tk', Ext g s.heap g h' → Q (if i = j then sv else .bool false) { s with heap := h', toks := tk' }) :
    wpAny (model P0 w) A (call (.ref 219) [.int i ti, .int j tj, sv] []) Q E s := by
  refine wpAny_call ?_
  refine callZ G hg hroom.depth (binds := [("u", .int i ti), ("v", .int j tj), ("s", sv)]) (by k_is) (by k_is) (BindsTo.of_eq rfl) (by decide) (locs rfl) (fun L h₁ F => ?_)
  dsimp only
  have r1 := hroom.deeper (env := default)
  refine wpAny_execs_cons (wpAny_If (wpAny_isTrue_BoolOp (wpAny_allTrue_Or_cons (isTrue_plain ?_))))
  refine Call_Name rfl (nameG G F.x.gh (by k_is) (callWith_K G.k (by k_is) (spliced_more (ldZ F rfl (spliced_none ?_)))))
  refine ⟨G.k.keeps F.x.gh, ?_⟩
  dsimp only [List.nil_append]
  refine isvar_spec G F.x.gh hroom.deeper.depth (.num i ti) (fun h2 tk2 x2 => wpAny_truthy_bool ?_)
  have F2 := F.ext x2
  simp only [Part.isVar, Bool.false_eq_true, if_false]
  refine wpAny_allTrue_Or_cons (isTrue_plain ?_)
  refine Call_Name rfl (nameG G F2.x.gh (by k_is) (callWith_K G.k (by k_is) (spliced_more (ldZ F2 rfl (spliced_none ?_)))))
  refine ⟨G.k.keeps F2.x.gh, ?_⟩
  dsimp only [List.nil_append]
  refine isvar_spec G F2.x.gh hroom.deeper.depth (.num j tj) (fun h3 tk3 x3 => wpAny_truthy_bool ?_)
  have F3 := F2.ext x3
  simp only [Part.isVar, Bool.false_eq_true, if_false]
  refine wpAny_allTrue_Or_nil ?_
  simp only [Bool.false_eq_true, if_false]
  refine wpAny_execs_nil (wpAny_execs_cons (wpAny_If (wpAny_isTrue_BoolOp (wpAny_allTrue_Or_cons (wpAny_isTrue_BoolOp (wpAny_allTrue_And_cons (isTrue_plain ?_)))))))
  refine Call_Name rfl (nameB G F3.x.gh (by k_is) (by boot_fast) (by decide) (callWith_builtin rfl (evalArgs_plain (spliced_more (ldZ F3 rfl (spliced_more (nameB (v := .type "tuple") G F3.x.gh (by k_is) (by boot_fast) (by decide) (spliced_none ?_))))))))
  refine IsiPair.int_tuple (wpAny_truthy_bool ?_)
  simp only [Bool.false_eq_true, if_false]
  refine wpAny_allTrue_Or_cons (wpAny_isTrue_BoolOp (wpAny_allTrue_And_cons (isTrue_plain ?_)))
  refine Call_Name rfl (nameB G F3.x.gh (by k_is) (by boot_fast) (by decide) (callWith_builtin rfl (evalArgs_plain (spliced_more (ldZ F3 rfl (spliced_more (nameB (v := .type "list") G F3.x.gh (by k_is) (by boot_fast) (by decide) (spliced_none ?_))))))))
  refine IsiPair.int_list (wpAny_truthy_bool ?_)
  simp only [Bool.false_eq_true, if_false]
  refine wpAny_allTrue_Or_nil ?_
  simp only [Bool.false_eq_true, if_false]
  refine wpAny_execs_nil (wpAny_execs_cons (wpAny_If (wpAny_isTrue_BoolOp (wpAny_allTrue_And_cons (isTrue_plain ?_)))))
  refine Call_Name rfl (nameB G F3.x.gh (by k_is) (by boot_fast) (by decide) (callWith_builtin rfl (evalArgs_plain (spliced_more (ldZ F3 rfl (spliced_more (nameB (v := .type "dict") G F3.x.gh (by k_is) (by boot_fast) (by decide) (spliced_none ?_))))))))
  refine IsiPair.int_dict (wpAny_truthy_bool ?_)
  simp only [Bool.false_eq_true, if_false]
  refine wpAny_execs_nil (wpAny_execs_cons (wpAny_Return_some (wpAny_IfExp (wpAny_isTrue_Compare1 (ldZ F3 rfl (ldZ F3 rfl (eq_int (wpAny_truthy_bool ?_))))))))
  have := fun tk => h h3 tk F3.x
  by_cases q : i = j
  · subst q
    simp only [beq_self_eq_true, if_true] at this ⊢
    exact ldZ F3 rfl (this _)
  · rw [if_neg q] at this
    rw [show (i == j) = false from beq_eq_false_iff_ne.mpr q]
    simp only [Bool.false_eq_true, if_false]
    exact wpAny_Constant_bool (this _)
/-- a step of the unifier at two ends of chains -/
def stepS (σ : Sig) : Part → Part → Option Sig
  | .var t, r2 => some (if Part.var t = r2 then σ else σ ++ [(t, r2)])
  | .num i, .var t => some (σ ++ [(t, .num i)])
  | .num i, .num j => if i = j then some σ else none
/-- what a generator over two parts keeps -/
def VOG (w : World) (mg mb : Str → Option Value) (gc : Heap) (m : Str → Option Value) (L : Nat) (res : Option Sig) (gs : GenState) : Prop :=
  gs.bare = true ∧ ∀ (A : Around) (s₀ : Shared) (g : Heap), Gd w mg mb g → Sub gc g → Sub g s₀.heap → Rm 8 A → s₀.heap.Ns L m → g.get? L = none →
    gs.Goes (model P0 w) A (fun n s₁ r s₂ => r = .ok (.ret .none) ∧ n = 0 ∧ s₂ = s₁)
      (fun n s₁ val s₂ k => n = 0 ∧ ∃ g' h' tk', s₂ = { s₁ with heap := h', toks := tk' } ∧ ExtO (fun a => a = L) g s₁.heap g' h' ∧ IsRes g' val res ∧ ∀ x s₃, k (.send x) s₃) 1 (.send .none) s₀
theorem vo_call {d : Nat} {σ : Sig} {n1 n2 : Nat} {u v : Value} {p q r1 r2 : Part} {Q : Value → Shared → Prop} (G : Gd w mg mb g) (hg : Sub g s.heap) (hroom : Rm 3 A)
    (hD : IsSub g d σ) (hs : ∀ x ∈ σ, x.2.small) (hlen : σ.length ≤ 1000) (hu : IsPart g u p) (hp : p.small) (hv : IsPart g v q) (hq : q.small) (hc1 : Chain σ n1 p r1) (hc2 : Chain σ n2 q r2)
    (h : ∀ (L z : Nat) g' h' tk gs m, Ext g s.heap g' h' → IsG g' z s.gens.size → h'.Ns L m → g'.get? L = none → s.heap.objs.size ≤ L → VOG w mg mb g' m L (stepS σ r1 r2) gs →
      Q (.ref z) { s with heap := h', toks := tk, gens := s.gens.push gs }) :
    wpAny (model P0 w) A (call (.ref 226) [u, v, .ref d] []) Q E s := by
  refine wpAny_call ?_
  refine callG G hg hroom.depth (binds := [("u", u), ("v", v), ("s", .ref d)]) (by k_is) (by k_is) (BindsTo.of_eq rfl) (by decide) (locs rfl) (fun L z g' h' tk x hz hn hL hlt => ?_)
  refine h L z g' h' tk _ _ x hz hn hL hlt ⟨rfl, fun A s₀ g2 G2 sub2 hg2 hroom2 hns off2 => ⟨rfl, ?_⟩⟩
  have F := Gz.wake (fun a => a = L) hg2 hns (fun a ha => by rw [ha]; exact off2) rfl
  replace hD := (hD.up x.gg).up sub2
  replace hu := (hu.up x.gg).up sub2
  replace hv := (hv.up x.gg).up sub2
  clear hns hL hn hz h hg G x
  have rm : ∀ body env, Rm 7 (A.over (.func body env) []) := fun _ _ => hroom2.over
  refine seg_func (seg_execs_cons (seg_step (wpAny_Assign_Name ?_)))
  refine Call_Name rfl (nameG G2 F.x.gh (by k_is) (callWith_K G2.k (by k_is) (spliced_more (ldW F rfl (spliced_more (ldW F rfl (spliced_none ?_)))))))
  refine ⟨G2.k.keeps F.x.gh, ?_⟩
  dsimp only [List.nil_append, List.cons_append]
  refine tget_spec G2 F.x.gh (Rm.le (rm _ _) (by omega)) hD hs hu hp hc1 (fun h1 tk1 u1 x1 hu1 sm1 no1 => ?_)
  have F1 := F.ext x1
  refine stW F1 (fun h2 F2 sb2 => ?_)
  dsimp only
  refine seg_execs_cons (seg_step (wpAny_mono (Q := fun fl s' => fl = .next ∧ ∃ h' tk' vw m', s' = { s₀ with heap := h', toks := tk' } ∧ Gz g2 (only s₀.heap fun a => ¬a = L) g2 h' L m' ∧ m' "u_w" = some u1 ∧ m' "v_w" = some vw ∧ m' "s" = some (.ref d) ∧ IsPart g2 vw r2 ∧ r2.small ∧ look σ r2 = none) (E := fun _ _ => False) ?_ (fun fl s' hx => ?_) (fun _ _ z => z.elim)))
  · refine wpAny_If (isTrue_plain ?_)
    refine Call_Name rfl (nameG G2 F2.x.gh (by k_is) (callWith_K G2.k (by k_is) (spliced_more (ldW F2 rfl (spliced_none ?_)))))
    refine ⟨G2.k.keeps F2.x.gh, ?_⟩
    dsimp only [List.nil_append]
    refine isvar_spec G2 F2.x.gh (rm _ _).depth hv (fun h3 tk3 x3 => wpAny_truthy_bool ?_)
    have F3 := F2.ext x3
    dsimp only
    cases q with
    | var t =>
      simp only [Part.isVar, if_true]
      refine wpAny_execs_cons (wpAny_Assign_Name ?_)
      refine Call_Name rfl (nameG G2 F3.x.gh (by k_is) (callWith_K G2.k (by k_is) (spliced_more (ldW F3 rfl (spliced_more (ldW F3 rfl (spliced_none ?_)))))))
      refine ⟨G2.k.keeps F3.x.gh, ?_⟩
      dsimp only [List.nil_append, List.cons_append]
      refine tget_spec G2 F3.x.gh (Rm.le (rm _ _) (by omega)) hD hs hv hq hc2 (fun h4 tk4 v4 x4 hv4 sm4 no4 => ?_)
      have F4 := F3.ext x4
      dsimp only
      refine stW F4 (fun h5 F5 sb5 => ?_)
      exact wpAny_execs_nil ⟨rfl, _, _, v4, _, rfl, F5, rfl, rfl, rfl, hv4, sm4, no4⟩
    | num j =>
      simp only [Part.isVar, Bool.false_eq_true, if_false]
      refine wpAny_execs_cons (wpAny_Assign_Name (ldW F3 rfl (stW F3 (fun h5 F5 sb5 => ?_))))
      have e : r2 = .num j := by
        cases hc2 with
        | stop _ => rfl
        | step h _ => cases h
      subst e
      exact wpAny_execs_nil ⟨rfl, _, _, v, _, rfl, F5, rfl, rfl, rfl, hv, trivial, rfl⟩
  obtain ⟨rfl, h3, tk3, vw, m3, rfl, F3, mu, mv, ms, hvw, sm2, no2⟩ := hx
  dsimp only
  clear F2 F1 F
  refine seg_execs_cons (seg_If (wpAny_isTrue_Compare1 (ldW F3 mu (ldW F3 mv ?_))))
  show wpAny _ _ (richCompare .Eq _ _) _ _ _
  refine peq G2 F3.x.gh (Rm.le (rm _ _) (by omega)) hu1 hvw (fun h4 tk4 x4 => wpAny_truthy_bool ?_)
  have F4 := F3.ext x4
  dsimp only
  by_cases e12 : r1 = r2
  · simp only [e12, decide_true, if_true]
    refine seg_execs_cons (seg_Yield rfl rfl rfl (ldW F4 ms (fun kap hk => ?_)))
    refine ⟨rfl, g2, h4, tk4, rfl, F4.exto, ?_, fun x s₃ => hk x s₃ (seg_end (.ok (.ret .none)) ⟨rfl, rfl, rfl⟩)⟩
    have e : stepS σ r2 r2 = some σ := by cases r2 <;> simp [stepS]
    rw [e]
    exact .some hD
  · simp only [e12, decide_false, Bool.false_eq_true, if_false]
    refine seg_execs_cons (seg_If (isTrue_plain ?_))
    refine Call_Name rfl (nameG G2 F4.x.gh (by k_is) (callWith_K G2.k (by k_is) (spliced_more (ldW F4 mu (spliced_none ?_)))))
    refine ⟨G2.k.keeps F4.x.gh, ?_⟩
    dsimp only [List.nil_append]
    refine isvar_spec G2 F4.x.gh (rm _ _).depth hu1 (fun h5 tk5 x5 => wpAny_truthy_bool ?_)
    have F5 := F4.ext x5
    dsimp only
    cases hu1 with
    | @var ua t ha =>
      simp only [Part.isVar, if_true]
      refine seg_execs_cons (seg_Yield rfl rfl rfl ?_)
      refine Call_Name rfl (nameG G2 F5.x.gh (by k_is) (callWith_K G2.k (by k_is) (spliced_more (ldW F5 ms (spliced_more (ldW F5 mu (spliced_more (ldW F5 mv (spliced_none ?_)))))))))
      refine ⟨G2.k.keeps F5.x.gh, ?_⟩
      dsimp only [List.nil_append, List.cons_append]
      refine assoc_spec G2 F5.x.gh (Rm.le (rm _ _) (by omega)) hD hlen ha sm1 no1 hvw (fun g6 h6 tk6 D x6 hD6 => ?_)
      have F6 := F5.ext x6
      dsimp only
      intro kap hk
      refine ⟨rfl, g6, h6, tk6, rfl, F6.exto, ?_, fun x s₃ => hk x s₃ (seg_end (.ok (.ret .none)) ⟨rfl, rfl, rfl⟩)⟩
      rw [stepS, if_neg e12]
      exact .some hD6
    | num i tki =>
      simp only [Part.isVar, Bool.false_eq_true, if_false]
      refine seg_execs_cons (seg_If (isTrue_plain ?_))
      refine Call_Name rfl (nameG G2 F5.x.gh (by k_is) (callWith_K G2.k (by k_is) (spliced_more (ldW F5 mv (spliced_none ?_)))))
      refine ⟨G2.k.keeps F5.x.gh, ?_⟩
      dsimp only [List.nil_append]
      refine isvar_spec G2 F5.x.gh (rm _ _).depth hvw (fun h6 tk6 x6 => wpAny_truthy_bool ?_)
      have F6 := F5.ext x6
      dsimp only
      cases hvw with
      | @var va t hb =>
        simp only [Part.isVar, if_true]
        refine seg_execs_cons (seg_Yield rfl rfl rfl ?_)
        refine Call_Name rfl (nameG G2 F6.x.gh (by k_is) (callWith_K G2.k (by k_is) (spliced_more (ldW F6 ms (spliced_more (ldW F6 mv (spliced_more (ldW F6 mu (spliced_none ?_)))))))))
        refine ⟨G2.k.keeps F6.x.gh, ?_⟩
        dsimp only [List.nil_append, List.cons_append]
        refine assoc_spec G2 F6.x.gh (Rm.le (rm _ _) (by omega)) hD hlen hb sm2 no2 (.num i tki) (fun g7 h7 tk7 D x7 hD7 => ?_)
        have F7 := F6.ext x7
        dsimp only
        intro kap hk
        refine ⟨rfl, g7, h7, tk7, rfl, F7.exto, ?_, fun x s₃ => hk x s₃ (seg_end (.ok (.ret .none)) ⟨rfl, rfl, rfl⟩)⟩
        exact .some hD7
      | num j tkj =>
        simp only [Part.isVar, Bool.false_eq_true, if_false]
        refine seg_execs_cons (seg_Yield rfl rfl rfl ?_)
        refine Call_Name rfl (nameG G2 F6.x.gh (by k_is) (callWith_K G2.k (by k_is) (spliced_more (ldW F6 mu (spliced_more (ldW F6 mv (spliced_more (ldW F6 ms (spliced_none ?_)))))))))
        refine ⟨G2.k.keeps F6.x.gh, ?_⟩
        dsimp only [List.nil_append, List.cons_append]
        refine unifyN_spec G2 F6.x.gh (Rm.le (rm _ _) (by omega)) (fun h7 tk7 x7 => ?_)
        have F7 := F6.ext x7
        dsimp only
        have hne : ¬ i = j := fun e => e12 (by rw [e])
        rw [if_neg hne]
        intro kap hk
        refine ⟨rfl, g2, h7, tk7, rfl, F7.exto, ?_, fun x s₃ => hk x s₃ (seg_end (.ok (.ret .none)) ⟨rfl, rfl, rfl⟩)⟩
        rw [stepS, if_neg hne]
        exact .no
end
end Mine
end
section
open PySem PySem.W PySem.Calls PyProof.Rows
set_option maxRecDepth 100000
set_option maxHeartbeats 4000000
namespace Mine
theorem VOG.up {w mg mb} {gc gc' : Heap} {m L res gs} (h : VOG w mg mb gc m L res gs) (s : Sub gc gc') : VOG w mg mb gc' m L res gs :=
  ⟨h.1, fun A s₀ g G sub hg r n o => h.2 A s₀ g G (s.trans sub) hg r n o⟩
section
variable {w : World} {mg mb : Str → Option Value} {A : Around} {E : Value → Shared → Prop} {s : Shared} {g : Heap}
theorem unifyV_spec {d : Nat} {σ : Sig} {n1 n2 : Nat} {u v : Value} {p q r1 r2 : Part} {Q : Value → Shared → Prop} (G : Gd w mg mb g) (hg : Sub g s.heap) (hroom : Rm 4 A)
    (hD : IsSub g d σ) (hs : ∀ x ∈ σ, x.2.small) (hlen : σ.length ≤ 1000) (hu : IsPart g u p) (hp : p.small) (hv : IsPart g v q) (hq : q.small) (hc1 : Chain σ n1 p r1) (hc2 : Chain σ n2 q r2)
    (hvar : p.isVar = true ∨ q.isVar = true)
    (h : ∀ (L z : Nat) (y : Nat) g' h' tk gs m, Ext g s.heap g' h' → IsGenr g' y (.ref z) → IsG g' z s.gens.size → h'.Ns L m → g'.get? L = none → s.heap.objs.size ≤ L → VOG w mg mb g' m L (stepS σ r1 r2) gs →
      Q (.ref y) { s with heap := h', toks := tk, gens := s.gens.push gs }) :
    wpAny (model P0 w) A (call (.ref 219) [u, v, .ref d] []) Q E s := by
  refine wpAny_call ?_
  refine callZ G hg hroom.depth (binds := [("u", u), ("v", v), ("s", .ref d)]) (by k_is) (by k_is) (BindsTo.of_eq rfl) (by decide) (locs rfl) (fun L h₁ F => ?_)
  dsimp only
  refine wpAny_execs_cons (wpAny_If (wpAny_mono (Q := fun b s' => b = true ∧ ∃ h' tk', s' = { s with heap := h', toks := tk' } ∧ Fz g s.heap g h' L (fun x => [(("u" : Str), u), ("v", v), ("s", .ref d)].reverse.lookup x)) (E := fun _ _ => False) (wpAny_isTrue_BoolOp (wpAny_allTrue_Or_cons (isTrue_plain ?_))) (fun b s' hx => ?_) (fun _ _ z => z.elim)))
  · refine Call_Name rfl (nameG G F.x.gh (by k_is) (callWith_K G.k (by k_is) (spliced_more (ldZ F rfl (spliced_none ?_)))))
    refine ⟨G.k.keeps F.x.gh, ?_⟩
    dsimp only [List.nil_append]
    refine isvar_spec G F.x.gh hroom.deeper.depth hu (fun h2 tk2 x2 => wpAny_truthy_bool ?_)
    have F2 := F.ext x2
    cases e1 : p.isVar with
    | true =>
      simp only [if_true]
      exact ⟨trivial, _, _, rfl, F2⟩
    | false =>
      have e2 : q.isVar = true := by rcases hvar with q' | q' <;> simp_all
      simp only [Bool.false_eq_true, if_false]
      refine wpAny_allTrue_Or_cons (isTrue_plain ?_)
      refine Call_Name rfl (nameG G F2.x.gh (by k_is) (callWith_K G.k (by k_is) (spliced_more (ldZ F2 rfl (spliced_none ?_)))))
      refine ⟨G.k.keeps F2.x.gh, ?_⟩
      dsimp only [List.nil_append]
      refine isvar_spec G F2.x.gh hroom.deeper.depth hv (fun h3 tk3 x3 => wpAny_truthy_bool ?_)
      rw [e2]
      simp only [if_true]
      exact ⟨trivial, _, _, rfl, F2.ext x3⟩
  obtain ⟨rfl, h2, tk2, rfl, F2⟩ := hx
  simp only [if_true]
  refine wpAny_execs_cons (wpAny_Return_some ?_)
  refine Call_Name rfl (nameG G F2.x.gh (by k_is) (callWith_K G.k (by k_is) (spliced_more ?_)))
  refine Call_Name rfl (nameG G F2.x.gh (by k_is) (callWith_K G.k (by k_is) (spliced_more (ldZ F2 rfl (spliced_more (ldZ F2 rfl (spliced_more (ldZ F2 rfl (spliced_none ?_)))))))))
  refine ⟨G.k.keeps F2.x.gh, ?_⟩
  dsimp only [List.nil_append, List.cons_append]
  refine vo_call G F2.x.gh (Rm.le hroom.deeper (by omega)) hD hs hlen hu hp hv hq hc1 hc2 (fun L2 z g3 h3 tk3 gs m3 x3 hz hn hL hlt hvo => spliced_none ?_)
  have F3 := F2.ext x3
  have G3 := G.up F3.x.gg
  refine ⟨G3.k.keeps F3.x.gh, ?_⟩
  dsimp only [List.nil_append, List.cons_append]
  have dp := hroom.1
  refine wpAny_call (gen_make G3 F3.x.gh (by rw [depth_deeper]; omega) (fun g4 h4 tk4 y x4 hy => ?_))
  have F4 := F3.ext x4
  dsimp only
  exact h L2 z y g4 h4 _ gs m3 F4.x hy (hz.up x4.gg) (hn.keeps x4.hh) ((x4.new _ hn.lt).trans hL) (Nat.le_trans F2.x.sz hlt) (hvo.up x4.gg)
end
end Mine
end
section
open PySem PySem.W PySem.Calls PyProof.Rows
set_option maxRecDepth 100000
set_option maxHeartbeats 4000000
namespace Mine
section
variable {w : World} {A : Around} {R : GenEnd} {Y : Protocol} {n : Nat} {s₀ : Shared} {c : Code} {fs : List Frame} {s : Shared} {env : Env}
  {K : Flow → Sem Fin} {H : Value → Sem Fin} {gd : Bool → Bool} {lv : List Value → List Value}
/-- x = (yield e) -/
theorem seg_AssignYield {x : Str} {e : Expr} {xpos ypos pos : Pos} (hfs : splitAtGen fs = none) (hgd : gd false = false) (hfg : fs.any Frame.guarded = false)
    (hs : swapsWith (.Yield (some e) ypos) (some (.Name x xpos)) pos.line env = pure false)
    (h : wpAny (model P0 w) (A.over c fs) (eval e env) (fun v s' => ∀ kap : Resume → Shared → Prop,
        (∀ y s'', wpAny (model P0 w) (A.over c fs) (storeName env x y) (fun _ s3 => Seg (model P0 w) A R Y n s'' c (K .next) fs s3) (fun _ _ => False) s'' → kap (.send y) s'') → Y n s₀ v s' kap)
      (fun _ _ => False) s) (hco : env.scope.isCoroutine = false := by rfl) :
    Seg (model P0 w) A R Y (n + 1) s₀ c ((exec (.Assign [.Name x xpos] (.Yield (some e) ypos) pos) env).wrap K H gd lv) fs s := by
  rw [exec_Assign_Name env x xpos _ pos hs]
  have hy : ∀ v, yieldOut env v = yieldValue v := fun v => by simp only [yieldOut, hco, Bool.false_eq_true, if_false]
  have he : eval (.Yield (some e) ypos) env = (eval e env >>= fun v => (standAt ypos >>= fun _ => yieldValue v)) := by
    rw [arm_eval_Yield]
    simp only [hy]
    rfl
  rw [he]
  rw [Sem.bind_eq_wrap', Sem.wrap_wrap]
  refine seg_wrap (wpAny_standAt ?_)
  rw [Sem.bind_eq_wrap', Sem.bind_eq_wrap', Sem.wrap_wrap, Sem.wrap_wrap]
  refine seg_wrap (wpAny_mono h (fun v s' h' => ?_) fun _ _ x => x.elim)
  refine seg_at (seg_yield hfs hgd hfg ?_)
  refine h' _ fun y s'' hx => ?_
  show Seg (model P0 w) A R Y n s'' c (Sem.wrap K H gd lv (standAt xpos >>= fun _ => bindName env x y >>= fun _ => pure Flow.next)) fs s''
  rw [Sem.bind_eq_wrap', Sem.wrap_wrap]
  refine seg_wrap (wpAny_standAt ?_)
  rw [Sem.bind_eq_wrap', Sem.wrap_wrap]
  refine seg_wrap (wpAny_bindName (wpAny_mono hx (fun _ s3 h3 => h3) fun _ _ z => z.elim))
theorem seg_For {target iter : Expr} {body orelse : List Stmt} {pos : Pos}
    (h : wpAny (model P0 w) (A.over c fs) (eval iter env) (fun x s₁ => wpAny (model P0 w) (A.over c fs) (pyIter x) (fun it s₂ =>
      ∀ p (k : Result → Sem Fin), (∀ f, k (.ok f) = K f) → Seg (model P0 w) A R Y n s₀ (.forLoop target it body orelse env) ((model P0 w).den (.forLoop target it body orelse env))
        (.ret k none (gd false) (lv []) c p [] :: fs) s₂) (fun _ _ => False) s₁) (fun _ _ => False) s)
    (hs : ∀ x, foldedSetIterable iter env x = pure x := by intro _; rfl) :
    Seg (model P0 w) A R Y n s₀ c ((exec (.For target iter body orelse pos) env).wrap K H gd lv) fs s := by
  rw [exec_For]
  rw [Sem.bind_eq_wrap', Sem.wrap_wrap]
  refine seg_wrap (wpAny_standAt ?_)
  rw [Sem.bind_eq_wrap', Sem.wrap_wrap]
  refine seg_wrap (wpAny_mono h (fun x s₁ h₁ => ?_) fun _ _ z => z.elim)
  simp only [hs]
  rw [Sem.bind_eq_wrap', Sem.wrap_wrap]
  refine seg_wrap (wpAny_pure ?_)
  rw [Sem.bind_eq_wrap', Sem.wrap_wrap]
  refine seg_wrap (wpAny_standAt ?_)
  rw [Sem.bind_eq_wrap', Sem.wrap_wrap]
  refine seg_wrap (wpAny_holding (wpAny_mono h₁ (fun it s₂ h₂ => ?_) fun _ _ z => z.elim))
  exact seg_call fun p => h₂ p _ (fun f => rfl)
theorem seg_forLoop {target it} {body orelse : List Stmt}
    (h : wpAny (model P0 w) (A.over (.forLoop target it body orelse env) fs) (pyNext it) (fun r s₁ => match r with
        | none => Seg (model P0 w) A R Y n s₀ (.forLoop target it body orelse env) (.pure (.again (.block orelse env))) fs s₁
        | some v => wpAny (model P0 w) (A.over (.forLoop target it body orelse env) fs) (letOwnedTupleGo target it v) (fun _ s₂ =>
          wpAny (model P0 w) (A.over (.forLoop target it body orelse env) fs) (assign target env v) (fun _ s₃ => ∀ H', 
            Seg (model P0 w) A R Y n s₀ (.forLoop target it body orelse env) ((execs body env).wrap (fun f => match f with
              | .next | .cont => .pure (.again (.forLoop target it body orelse env))
              | .brk => .pure (.done .next)
              | .ret v => .pure (.done (.ret v))) H' id id) fs s₃) (fun _ _ => False) s₂) (fun _ _ => False) s₁) (fun _ _ => False) s) :
    Seg (model P0 w) A R Y n s₀ (.forLoop target it body orelse env) ((model P0 w).den (.forLoop target it body orelse env)) fs s := by
  show Seg _ A R Y n s₀ _ ((forTurn target it body orelse env).onRaise (fun x => do noteFrame x env; theTreesLotGoes x)) fs s
  unfold forTurn
  rw [Sem.onRaise_eq_wrap, Sem.bind_eq_wrap', Sem.wrap_wrap]
  refine seg_wrap (wpAny_standAt ?_)
  rw [Sem.bind_eq_wrap', Sem.wrap_wrap]
  refine seg_wrap (wpAny_onRaise (wpAny_mono h (fun r s₁ h₁ => ?_) fun _ _ z => z.elim))
  cases r with
  | none => exact h₁
  | some v =>
    show Seg _ A R Y n s₀ _ (Sem.wrap _ _ _ _ (letOwnedTupleGo target it v >>= fun _ => _)) fs s₁
    rw [Sem.bind_eq_wrap', Sem.wrap_wrap]
    refine seg_wrap (wpAny_mono h₁ (fun _ s₂ h₂ => ?_) fun _ _ z => z.elim)
    rw [Sem.bind_eq_wrap', Sem.wrap_wrap]
    refine seg_wrap (wpAny_mono h₂ (fun _ s₃ h₃ => ?_) fun _ _ z => z.elim)
    rw [Sem.bind_eq_wrap', Sem.wrap_wrap]
    rw [Sem.wrap_congr (execs body env) _ _ (K' := fun f => match f with
            | .next | .cont => .pure (.again (.forLoop target it body orelse env))
            | .brk => .pure (.done .next)
            | .ret v => .pure (.done (.ret v))) (fun f => by cases f <;> rfl) (fun e => rfl)]
    exact h₃ _
theorem seg_block {orelse : List Stmt} (h : ∀ H', Seg (model P0 w) A R Y n s₀ (.block orelse env) ((execs orelse env).wrap (fun f => .pure (.done f)) H' id id) fs s) :
    Seg (model P0 w) A R Y n s₀ c (.pure (.again (.block orelse env))) fs s := by
  refine seg_again rfl ?_
  show Seg _ A R Y n s₀ _ (((execs orelse env).onRaise (fun x => do noteFrame x env; theTreesLotGoes x)) >>= fun f => pure (.done f)) fs s
  rw [Sem.onRaise_eq_wrap, Sem.bind_eq_wrap', Sem.wrap_wrap]
  exact h _
end
end Mine
end
section
open PySem PySem.W PySem.Calls PyProof.Rows
set_option maxRecDepth 100000
set_option maxHeartbeats 4000000
namespace Mine
abbrev Tab := List (Int × Part)
inductive TabEnts (g : Heap) : List (Int × Value) → Tab → Prop
  | nil : TabEnts g [] []
  | cons {k v p kvs τ} : IsPart g v p → TabEnts g kvs τ → TabEnts g ((k, v) :: kvs) ((k, p) :: τ)
theorem TabEnts.up {g g' : Heap} {kvs τ} (h : TabEnts g kvs τ) (s : Sub g g') : TabEnts g' kvs τ := by
  induction h with
  | nil => exact .nil
  | cons a _ ih => exact .cons (a.up s) ih
theorem TabEnts.len {g : Heap} {kvs τ} (h : TabEnts g kvs τ) : kvs.length = τ.length := by
  induction h with
  | nil => rfl
  | cons a _ ih => simp [ih]
def tabAt (τ : Tab) (k : Int) : Option Part := (τ.find? (fun x => x.1 = k)).map (·.2)
theorem TabEnts.look {g : Heap} {kvs τ} (h : TabEnts g kvs τ) (k : Int) : IsOpt g (valueAt kvs k) (tabAt τ k) := by
  induction h with
  | nil => exact .none
  | @cons k' v p kvs τ a _ ih =>
    unfold valueAt tabAt at *
    simp only [List.find?_cons]
    by_cases e : k' = k
    · simp only [e, decide_true]; exact .some a
    · simp only [e, decide_false]; exact ih
theorem TabEnts.at {g : Heap} {kvs τ} (h : TabEnts g kvs τ) {i : Nat} {k : Int} {v : Value} (e : kvs[i]? = some (k, v)) : ∃ p, τ[i]? = some (k, p) ∧ IsPart g v p := by
  induction h generalizing i with
  | nil => simp at e
  | cons a _ ih =>
    cases i with
    | zero => simp at e; obtain ⟨rfl, rfl⟩ := e; exact ⟨_, rfl, a⟩
    | succ j => simp at e; simpa using ih e
def IsTab (w : World) (g : Heap) (d : Nat) (τ : Tab) : Prop := 185 < d ∧ ∃ kvs ep, g.DictAt (intKind P0 w) d kvs ep ∧ TabEnts g kvs τ
theorem IsTab.up {w} {g g' : Heap} {d τ} (h : IsTab w g d τ) (s : Sub g g') : IsTab w g' d τ := by
  obtain ⟨b, kvs, ep, h1, h2⟩ := h
  exact ⟨b, kvs, ep, h1.keep s, h2.up s⟩
/-- the end of a chain, with fuel -/
def walkF (σ : Sig) : Nat → Part → Part
  | 0, p => p
  | n + 1, p => match look σ p with
    | none => p
    | some q => walkF σ n q
def stepF (σ : Sig) (p q : Part) : Option Sig := stepS σ (walkF σ 8 p) (walkF σ 8 q)
/-- the substitution after i keys -/
def after (τu τv : Tab) : Nat → Option Sig
  | 0 => some []
  | i + 1 => match after τu τv i, τu[i]? with
    | some σ, some (k, p) => match tabAt τv k with
      | some q => stepF σ p q
      | none => none
    | _, _ => none
structure OkSig (σ : Sig) : Prop where
  vals : ∀ x ∈ σ, x.2.small
  len : σ.length ≤ 1000
  chain : ∀ p, ∃ n, Chain σ n p (walkF σ 8 p)
structure OkTabs (τu τv : Tab) : Prop where
  lu : τu.length ≤ 1000
  lv : τv.length ≤ 1000
  su : ∀ x ∈ τu, x.2.small
  sv : ∀ x ∈ τv, x.2.small
  sig : ∀ i σ, after τu τv i = some σ → OkSig σ
theorem tabAt_small {τ : Tab} (h : ∀ x ∈ τ, x.2.small) {k : Int} {p : Part} (e : tabAt τ k = some p) : p.small := by
  simp only [tabAt, Option.map_eq_some_iff] at e
  obtain ⟨x, hx, rfl⟩ := e
  exact h x (List.mem_of_find?_eq_some hx)
/-- a frozen part over a base, up to the living place b unchanged -/
structure Cur (gi : Heap) (b I : Nat) (c h : Heap) : Prop where
  gg : Sub gi c
  gh : Sub c h
  low : ∀ a : Nat, a ≤ b → c.get? a = gi.get? a
  off : c.get? I = none
  liv : ∃ o, h.get? b = some o
theorem Cur.lt {gi : Heap} {b I : Nat} {c h : Heap} (C : Cur gi b I c h) : b < h.objs.size := let ⟨_, e⟩ := C.liv; Heap.lt_size e
def MR (L I : Nat) (τu τv : Tab) : GenEnd := fun n s₁ r s₂ => r = .ok (.ret .none) ∧ (n ≤ τu.length ∧ (τu.length ≠ τv.length ∨ after τu τv (τu.length - n + 1) = none)) ∧ ∃ h' tk', s₂ = { s₁ with heap := h', toks := tk' } ∧ ∀ (a : Nat) o, a ≠ L → a ≠ I → s₁.heap.get? a = some o → h'.get? a = some o
def MY (w : World) (mg mb : Str → Option Value) (gi : Heap) (b L I : Nat) (τu τv : Tab) : Protocol := fun n s₁ val s₂ k =>
  ∃ c' h' tk', Cur gi b I c' h' ∧ (∀ (a : Nat) o, a ≤ b → a ≠ L → s₁.heap.get? a = some o → h'.get? a = some o) ∧
    if τu.length ≠ τv.length then s₂ = { s₁ with heap := h', toks := tk' } ∧ val = .bool false ∧ ∀ x s₃, k (.send x) s₃
    else match τu[τu.length - n]? with
    | none => s₂ = { s₁ with heap := h', toks := tk' } ∧ IsRes c' val (after τu τv τu.length) ∧ ∀ x s₃, k (.send x) s₃
    | some (key, p) => match tabAt τv key with
      | none => s₂ = { s₁ with heap := h', toks := tk' } ∧ val = .bool false ∧ ∀ x s₃, k (.send x) s₃
      | some q => ((s₂ = { s₁ with heap := h', toks := tk' } ∧ IsRes c' val (after τu τv (τu.length - n + 1))) ∨
          (∃ (L2 z y : Nat) (gs : GenState) (m : Str → Option Value), val = .ref y ∧ s₂ = { s₁ with heap := h', toks := tk', gens := s₁.gens.push gs } ∧ IsGenr c' y (.ref z) ∧ IsG c' z s₁.gens.size ∧ h'.Ns L2 m ∧ c'.get? L2 = none ∧ b < L2 ∧ L2 ≠ I ∧ (∃ o, h'.get? I = some o) ∧
            VOG w mg mb c' m L2 (after τu τv (τu.length - n + 1)) gs)) ∧
          ∀ val' s₃ c₃, Cur gi b I c₃ s₃.heap → (∀ (a : Nat) o, a = L ∨ a = I → h'.get? a = some o → s₃.heap.get? a = some o) → IsRes c₃ val' (after τu τv (τu.length - n + 1)) → k (.send val') s₃
/-- what a generator over two tables keeps -/
def MAPG (w : World) (mg mb : Str → Option Value) (gc : Heap) (m : Str → Option Value) (L : Nat) (τu τv : Tab) (gs : GenState) : Prop :=
  gs.bare = true ∧ ∀ (A : Around) (s₀ : Shared) (gi : Heap) (b : Nat), Gd w mg mb gi → Sub gc gi → Sub gi s₀.heap → Rm 9 A → A.handled = none → s₀.heap.Ns L m → gi.get? L = none → L < b → (∃ o, s₀.heap.get? b = some o) →
    gs.Goes (model P0 w) A (MR L (s₀.heap.objs.size + 1) τu τv) (MY w mg mb gi b L (s₀.heap.objs.size + 1) τu τv) (τu.length + 1) (.send .none) s₀
theorem seg_ind {M : Model} {A : Around} {R : GenEnd} {Y : Protocol} {c : Code} {t : Sem Fin} {fs : List Frame} (N : Nat) (Inv : Nat → Shared → Shared → Prop)
    (turn : ∀ i s₁ s, i ≤ N → Inv i s₁ s → (i < N → ∀ s₁' s', Inv (i + 1) s₁' s' → Seg M A R Y (N - i) s₁' c t fs s') → Seg M A R Y (N - i + 1) s₁ c t fs s) :
    ∀ j i s₁ s, i ≤ N → N - i = j → Inv i s₁ s → Seg M A R Y (N - i + 1) s₁ c t fs s
  | 0, i, s₁, s, hi, hj, hI => turn i s₁ s hi hI (fun h => by omega)
  | j + 1, i, s₁, s, hi, hj, hI => turn i s₁ s hi hI (fun h s₁' s' hI' => by
      have := seg_ind N Inv turn j (i + 1) s₁' s' (by omega) (by omega) hI'
      rwa [show N - (i + 1) + 1 = N - i by omega] at this)
/-- a generator's frame under way -/
structure Hz (gi : Heap) (b I : Nat) (s1 c h : Heap) (L : Nat) (m : Str → Option Value) : Prop where
  C : Cur gi b I c h
  ns : h.Ns L m
  hh : ∀ (a : Nat) o, a ≤ b → a ≠ L → s1.get? a = some o → h.get? a = some o
  offL : c.get? L = none
  lb : L < b
  bI : b < I
theorem Hz.ext {gi : Heap} {b I : Nat} {s1 c h c' h' : Heap} {L m} (F : Hz gi b I s1 c h L m) (x : Ext c h c' h') (hI : I < h.objs.size) : Hz gi b I s1 c' h' L m :=
  ⟨⟨F.C.gg.trans x.gg, x.gh, fun a ha => (x.new a (Nat.lt_of_le_of_lt ha F.C.lt)).trans (F.C.low a ha), (x.new I hI).trans F.C.off, let ⟨o, e⟩ := F.C.liv; ⟨o, x.hh _ _ e⟩⟩,
    F.ns.keeps x.hh, fun a o h1 h2 e => x.hh _ _ (F.hh a o h1 h2 e), (x.new L F.ns.lt).trans F.offL, F.lb, F.bI⟩
theorem Hz.set {gi : Heap} {b I : Nat} {s1 c h h' : Heap} {L m m'} (F : Hz gi b I s1 c h L m) (hn : h'.Ns L m') (hs : Heap.SameBut L h h') : Hz gi b I s1 c h' L m' :=
  ⟨⟨F.C.gg, fun a o e => by rw [hs.2 a (fun q => by rw [q, F.offL] at e; cases e)]; exact F.C.gh a o e, F.C.low, F.C.off, let ⟨o, e⟩ := F.C.liv; ⟨o, (hs.2 b (Nat.ne_of_gt F.lb)).trans e⟩⟩,
    hn, fun a o h1 h2 e => (hs.2 a h2).trans (F.hh a o h1 h2 e), F.offL, F.lb, F.bI⟩
/-- a change at a place above b that is not of the frozen part -/
theorem Hz.hole {gi : Heap} {b I : Nat} {s1 c h h' : Heap} {L m} (F : Hz gi b I s1 c h L m) {D : Nat} (hs : ∀ (a : Nat) o, a ≠ D → h.get? a = some o → h'.get? a = some o) (hD : b < D) (hc : c.get? D = none) : Hz gi b I s1 c h' L m :=
  ⟨⟨F.C.gg, fun a o e => hs a o (fun q => by rw [q, hc] at e; cases e) (F.C.gh a o e), F.C.low, F.C.off, let ⟨o, e⟩ := F.C.liv; ⟨o, hs b o (Nat.ne_of_lt hD) e⟩⟩,
    F.ns.at fun o e => hs L o (Nat.ne_of_lt (Nat.lt_trans F.lb hD)) e, fun a o h1 h2 e => hs a o (Nat.ne_of_lt (Nat.lt_of_le_of_lt h1 hD)) (F.hh a o h1 h2 e), F.offL, F.lb, F.bI⟩
theorem Hz.sub {gi : Heap} {b I : Nat} {s1 c h h' : Heap} {L m} (F : Hz gi b I s1 c h L m) (x : Sub h h') : Hz gi b I s1 c h' L m :=
  ⟨⟨F.C.gg, F.C.gh.trans x, F.C.low, F.C.off, let ⟨o, e⟩ := F.C.liv; ⟨o, x _ _ e⟩⟩, F.ns.keeps x, fun a o h1 h2 e => x _ _ (F.hh a o h1 h2 e), F.offL, F.lb, F.bI⟩
section
variable {w : World} {A : Around} {E : Value → Shared → Prop} {s : Shared} {L : Nat} {m : Str → Option Value} {env : Env} {x : Str} {pos : Pos} {v : Value}
theorem ldN {Q : Value → Shared → Prop} (N : s.heap.Ns L m) (hv : m x = some v) (h : Q v s)
    (hL : env.locals = L := by rfl) (hk : env.scope.kind = .function := by rfl) (hl : env.kindOf x = some .local := by rfl) (hd : (x == ("__debug__" : Str)) = false := by decide) :
    wpAny (model P0 w) A (eval (.Name x pos) env) Q E s := by
  subst hL; exact wpAny_Name (wpAny_loadName_local hk hl N hv h) hd
theorem stN {Q : Unit → Shared → Prop} (N : s.heap.Ns L m)
    (h : ∀ h', h'.Ns L (fun y => if y = x then some v else m y) → Heap.SameBut L s.heap h' → Q () { s with heap := h', toks := s.toks + 1 })
    (hL : env.locals = L := by rfl) (hp : (env.scope.kind == .class || (env.scope.kind == .module && env.locals != env.globals)) = false := by rfl) (hl : env.kindOf x = some .local := by rfl) :
    wpAny (model P0 w) A (storeName env x v) Q E s := by
  subst hL; exact wpAny_storeName_local hl N (fun h' hn hs => h h' hn hs) hp
end
section
variable {w : World} {mg mb : Str → Option Value} {gi c' h' : Heap} {b L I n : Nat} {τu τv : Tab} {s₁ : Shared} {tk' : Tok} {k : Resume → Shared → Prop}
theorem MY_len (hne : τu.length ≠ τv.length) (C : Cur gi b I c' h') (hh : ∀ (a : Nat) o, a ≤ b → a ≠ L → s₁.heap.get? a = some o → h'.get? a = some o)
    (hk : ∀ x s₃, k (.send x) s₃) : MY w mg mb gi b L I τu τv n s₁ (.bool false) { s₁ with heap := h', toks := tk' } k :=
  ⟨c', h', tk', C, hh, by rw [if_pos hne]; exact ⟨rfl, rfl, hk⟩⟩
theorem MY_end {val : Value} (he : τu.length = τv.length) (hn : τu[τu.length - n]? = none) (C : Cur gi b I c' h') (hh : ∀ (a : Nat) o, a ≤ b → a ≠ L → s₁.heap.get? a = some o → h'.get? a = some o)
    (hr : IsRes c' val (after τu τv τu.length)) (hk : ∀ x s₃, k (.send x) s₃) : MY w mg mb gi b L I τu τv n s₁ val { s₁ with heap := h', toks := tk' } k :=
  ⟨c', h', tk', C, hh, by rw [if_neg (fun q => q he), hn]; exact ⟨rfl, hr, hk⟩⟩
theorem MY_miss {key : Int} {p : Part} (he : τu.length = τv.length) (hn : τu[τu.length - n]? = some (key, p)) (hm : tabAt τv key = none) (C : Cur gi b I c' h') (hh : ∀ (a : Nat) o, a ≤ b → a ≠ L → s₁.heap.get? a = some o → h'.get? a = some o)
    (hk : ∀ x s₃, k (.send x) s₃) : MY w mg mb gi b L I τu τv n s₁ (.bool false) { s₁ with heap := h', toks := tk' } k :=
  ⟨c', h', tk', C, hh, by rw [if_neg (fun q => q he), hn]; dsimp only; rw [hm]; exact ⟨rfl, rfl, hk⟩⟩
theorem MY_val {val : Value} {key : Int} {p q : Part} (he : τu.length = τv.length) (hn : τu[τu.length - n]? = some (key, p)) (hm : tabAt τv key = some q) (C : Cur gi b I c' h') (hh : ∀ (a : Nat) o, a ≤ b → a ≠ L → s₁.heap.get? a = some o → h'.get? a = some o)
    (hr : IsRes c' val (after τu τv (τu.length - n + 1)))
    (hk : ∀ val' s₃ c₃, Cur gi b I c₃ s₃.heap → (∀ (a : Nat) o, a = L ∨ a = I → h'.get? a = some o → s₃.heap.get? a = some o) → IsRes c₃ val' (after τu τv (τu.length - n + 1)) → k (.send val') s₃) :
    MY w mg mb gi b L I τu τv n s₁ val { s₁ with heap := h', toks := tk' } k :=
  ⟨c', h', tk', C, hh, by rw [if_neg (fun q => q he), hn]; dsimp only; rw [hm]; exact ⟨.inl ⟨rfl, hr⟩, hk⟩⟩
theorem MY_gen {key : Int} {p q : Part} {L2 z y : Nat} {gs : GenState} {m : Str → Option Value} (he : τu.length = τv.length) (hn : τu[τu.length - n]? = some (key, p)) (hm : tabAt τv key = some q) (C : Cur gi b I c' h') (hh : ∀ (a : Nat) o, a ≤ b → a ≠ L → s₁.heap.get? a = some o → h'.get? a = some o)
    (hy : IsGenr c' y (.ref z)) (hz : IsG c' z s₁.gens.size) (hns : h'.Ns L2 m) (hL2 : c'.get? L2 = none) (hB : b < L2) (hI : L2 ≠ I) (hIl : ∃ o, h'.get? I = some o) (hv : VOG w mg mb c' m L2 (after τu τv (τu.length - n + 1)) gs)
    (hk : ∀ val' s₃ c₃, Cur gi b I c₃ s₃.heap → (∀ (a : Nat) o, a = L ∨ a = I → h'.get? a = some o → s₃.heap.get? a = some o) → IsRes c₃ val' (after τu τv (τu.length - n + 1)) → k (.send val') s₃) :
    MY w mg mb gi b L I τu τv n s₁ (.ref y) { s₁ with heap := h', toks := tk', gens := s₁.gens.push gs } k :=
  ⟨c', h', tk', C, hh, by rw [if_neg (fun q => q he), hn]; dsimp only; rw [hm]; exact ⟨.inr ⟨L2, z, y, gs, m, rfl, rfl, hy, hz, hns, hL2, hB, hI, hIl, hv⟩, hk⟩⟩
end
end Mine
end
section
open PySem PySem.W PySem.Calls PyProof.Rows
set_option maxRecDepth 100000
set_option maxHeartbeats 4000000
namespace Mine
theorem Rm.overL {k : Nat} {A : Around} {t : Expr} {it : Value} {b o body : List Stmt} {env env' : Env} {kk : Result → Sem Fin} {p : Pos} (h : Rm (k + 1) A) :
    Rm k (A.over (.forLoop t it b o env) [.ret kk none false [] (.func body env') p []]) := by
  unfold Rm at *
  have e1 : (A.over (.forLoop t it b o env) [.ret kk none false [] (.func body env') p []]).depth = A.depth + 1 := rfl
  have e2 : (A.over (.forLoop t it b o env) [.ret kk none false [] (.func body env') p []]).units = A.units + 3 := rfl
  rw [e1, e2]; omega
section
variable {w : World} {mg mb : Str → Option Value} {A : Around} {E : Value → Shared → Prop} {s : Shared} {g : Heap}
theorem map_call {du dv d0 : Nat} {τu τv : Tab} {Q : Value → Shared → Prop} (G : Gd w mg mb g) (hg : Sub g s.heap) (hroom : Rm 3 A)
    (hU : IsTab w g du τu) (hV : IsTab w g dv τv) (hD : IsSub g d0 []) (ok : OkTabs τu τv)
    (h : ∀ (L z : Nat) g' h' tk gs m, Ext g s.heap g' h' → IsG g' z s.gens.size → h'.Ns L m → g'.get? L = none → s.heap.objs.size ≤ L → MAPG w mg mb g' m L τu τv gs →
      Q (.ref z) { s with heap := h', toks := tk, gens := s.gens.push gs }) :
    wpAny (model P0 w) A (call (.ref 240) [.ref du, .ref dv, .ref d0] []) Q E s := by
  refine wpAny_call ?_
  refine callG G hg hroom.depth (binds := [("u", .ref du), ("v", .ref dv), ("s", .ref d0)]) (by k_is) (by k_is) (BindsTo.of_eq rfl) (by decide) (locs rfl) (fun L z g' h' tk x hz hn hL hlt => ?_)
  refine h L z g' h' tk _ _ x hz hn hL hlt ⟨rfl, fun A s₀ gi b G2 sub2 hg2 hroom2 hhd hns off2 hLb hliv => ⟨rfl, ?_⟩⟩
  obtain ⟨hp, gn, dr, tk0, os⟩ := s₀
  dsimp only at hns hg2 hliv ⊢
  obtain ⟨I, hI⟩ : ∃ I, I = hp.objs.size + 1 := ⟨_, rfl⟩
  rw [← hI]
  have offI : gi.get? I = none := hg2.none (by omega)
  have hbs : b < hp.objs.size := let ⟨_, e⟩ := hliv; Heap.lt_size e
  have F : Hz gi b I hp gi hp L _ := ⟨⟨Sub.refl _, hg2, fun _ _ => rfl, offI, hliv⟩, hns, fun _ _ _ _ e => e, off2, hLb, by omega⟩
  replace hU := (hU.up x.gg).up sub2
  replace hV := (hV.up x.gg).up sub2
  replace hD := (hD.up x.gg).up sub2
  clear hns hL hn hz h hg G x sub2
  obtain ⟨bu, kvs, ep, du1, du2⟩ := hU
  obtain ⟨bv, kws, ep', dv1, dv2⟩ := hV
  have lu := ok.lu
  have lv := ok.lv
  have lku := du2.len
  have lkv := dv2.len
  have rm : ∀ body env, Rm 8 (A.over (.func body env) []) := fun _ _ => hroom2.over
  refine seg_func (seg_execs_cons (seg_If (wpAny_isTrue_Compare1 ?_)))
  refine Call_Name rfl (nameB G2 F.C.gh (by k_is) (by boot_fast) (by decide) (callWith_builtin rfl (evalArgs_plain (spliced_more (ldN F.ns rfl (spliced_none ?_))))))
  refine call_len_dict (knd := intKind P0 w) (not_sys bu) (du1.dictOf.keep F.C.gh) (by omega) ?_
  refine Call_Name rfl (nameB G2 F.C.gh (by k_is) (by boot_fast) (by decide) (callWith_builtin rfl (evalArgs_plain (spliced_more (ldN F.ns rfl (spliced_none ?_))))))
  refine call_len_dict (knd := intKind P0 w) (not_sys bv) (dv1.dictOf.keep F.C.gh) (by omega) ?_
  refine ne_int (wpAny_truthy_bool ?_)
  rw [lku, lkv]
  by_cases elen : τu.length = τv.length
  · rw [show ((τu.length : Int) != (τv.length : Int)) = false from by rw [elen]; simp]
    simp only [Bool.false_eq_true, if_false]
    refine seg_execs_nil (seg_execs_cons (seg_For ?_))
    refine wpAny_Call_items (knd := intKind P0 w) (kvs := kvs) (not_sys bu) (du1.dictOf.keep F.C.gh) rfl rfl (fun Q' q => ldN F.ns rfl q) ?_
    have e1 : (hp.push { cls := .type "dict_items", data := .fields #[.ref du] }).objs.size = I := by rw [Heap.size_push, hI]
    have k1 : Sub hp (hp.push { cls := .type "dict_items", data := .fields #[.ref du] }) := fun a o e => Heap.get?_push_of_some _ e
    refine wpAny_pyIter_items (knd := intKind P0 w) (d := du) (kvs := kvs) (ep := ep) ⟨_, Heap.get?_push_size _ rfl, rfl, rfl⟩ (du1.keep (F.C.gh.trans k1)) ?_
    intro p k hk
    dsimp only
    have k2 := fun o1 => k1.trans (fun a o e => Heap.get?_push_of_some o1 e : Sub _ ((hp.push { cls := .type "dict_items", data := .fields #[.ref du] }).push o1))
    have d2 := fun (o1 : Obj) (hf : o1.isFreed = false) => Heap.get?_push_size (hp.push { cls := .type "dict_items", data := .fields #[.ref du] }) hf
    rw [e1] at d2 ⊢
    have F2 := F.sub (k2 { cls := .type "dict_itemiterator", data := .fields #[.none, .bool false, .ref du, .int 0 0, .int kvs.length 0, .int ep 0, .none, .none] })
    replace d2 := d2 { cls := .type "dict_itemiterator", data := .fields #[.none, .bool false, .ref du, .int 0 0, .int kvs.length 0, .int ep 0, .none, .none] } rfl
    generalize ((hp.push { cls := .type "dict_items", data := .fields #[.ref du] }).push { cls := .type "dict_itemiterator", data := .fields #[.none, .bool false, .ref du, .int 0 0, .int kvs.length 0, .int ep 0, .none, .none] }) = h2 at *
    refine seg_ind τu.length (fun i s₁ s => ∃ h tk m' c D σ ok ov, s = { s₁ with heap := h, toks := tk } ∧ Hz gi b I s₁.heap c h L m' ∧ m' "u" = some (.ref du) ∧ m' "v" = some (.ref dv) ∧ m' "s" = some (.ref D) ∧ IsSub c D σ ∧ after τu τv i = some σ ∧
      IsItemIter h I du i kvs.length ep ok ov) ?_ τu.length 0 _ _ (Nat.zero_le _) rfl ⟨h2, _, _, gi, d0, [], .none, .none, rfl, F2, rfl, rfl, rfl, hD, rfl, d2⟩
    clear F2 d2 k2 k1 e1 F hbs offI hg2 hI hliv off2
    rintro i s₁ s hi ⟨h, tk, m', c, D, σ, ok1, ov1, rfl, F, mu, mv, ms, hS, haf, hit⟩ hnext
    obtain ⟨hq1, gn1, dr1, tk1, os1⟩ := s₁
    dsimp only at F hnext ⊢
    refine seg_forLoop ?_
    have dux := (du1.keep F.C.gg).keep F.C.gh
    have dvx := (dv1.keep F.C.gg).keep F.C.gh
    cases hx : kvs[i]? with
    | none =>
      have hin : τu.length ≤ i := by rw [← lku]; simpa using hx
      have hiN : i = τu.length := by omega
      refine wpAny_pyNext_items_end (knd := intKind P0 w) hhd hit dux hx (fun h' he => ?_)
      have F' := F.hole (h' := h') he F.bI F.C.off
      dsimp only
      refine seg_block (fun H' => seg_execs_cons (seg_Yield rfl rfl rfl (ldN F'.ns ms (fun kap hkap => ?_))))
      refine MY_end elen (by rw [hiN, Nat.sub_self, Nat.sub_zero]; simp) F'.C F'.hh (by rw [← hiN, haf]; exact .some hS) (fun x s₃ => hkap x s₃ ?_)
      refine seg_leaf (.ok .next) ?_
      rw [hk]
      exact seg_end (.ok (.ret .none)) ⟨rfl, ⟨Nat.sub_le _ _, .inr (by rw [hiN, Nat.sub_self, Nat.sub_zero]; simp only [after]; rw [show τu[τu.length]? = none by simp]; cases after τu τv τu.length <;> rfl)⟩, s₃.heap, s₃.toks, rfl, fun _ _ _ _ e => e⟩
    | some kv =>
      obtain ⟨key, uval⟩ := kv
      have hiN : i < τu.length := by rw [← lku]; exact (List.getElem?_eq_some_iff.mp hx).1
      obtain ⟨p1, hp1, hu1⟩ := du2.at hx
      have hIH : I < h.objs.size := Heap.lt_size hit
      refine wpAny_pyNext_items_item (knd := intKind P0 w) hit dux hx (fun kv h₁ hkey heo ht₁ hz₁ hk₁ => ?_)
      dsimp only at heo ht₁ hz₁ hk₁ ⊢
      have F1 := F.hole hk₁ F.bI F.C.off
      refine wpAny_letOwnedTupleGo_items heo (fun h₂ he₂ hs₂ => ?_)
      dsimp only at hs₂ ⊢
      have F2 := F1.hole (h' := h₂) (D := I) (fun a o ha e => (hs₂.2 a ha).trans e) F.bI F.C.off
      have ht₂ : h₂.IsTuple h.objs.size #[kv, uval] := ⟨_, (hs₂.2 _ (Nat.ne_of_gt hIH)).trans ht₁, rfl, _, rfl⟩
      have hz₂ : h₂.objs.size = h.objs.size + 1 := hs₂.1.trans hz₁
      refine wpAny_assign_Tuple hhd ht₂ rfl rfl (fun h₃ hx₃ => ?_)
      dsimp only at hx₃ ⊢
      have hbh := F2.C.lt
      have F3 := F2.hole (h' := h₃) (D := h₂.objs.size) (fun a o ha e => hx₃ a o ha e) hbh (F2.C.gh.none (Nat.le_refl _))
      have hit3 : IsItemIter h₃ I du (i + 1) kvs.length ep kv uval := hx₃ _ _ (Nat.ne_of_lt (by rw [hz₂]; omega)) he₂
      have hI3 : I < h₃.objs.size := Heap.lt_size hit3
      show wpAny _ _ (holding [uval] (assign (.Name "key" _) _ kv) >>= fun _ => (holding [] (assign (.Name "uval" _) _ uval) >>= fun _ => pure ())) _ _ _
      refine wpAny_bind (wpAny_holding (wpAny_assign_Name (stN F3.ns (fun h₄ hn₄ hs₄ => ?_))))
      have F4 := F3.set hn₄ hs₄
      dsimp only at hs₄
      refine wpAny_bind (wpAny_holding (wpAny_assign_Name (stN F4.ns (fun h5 hn5 hs5 => wpAny_pure ?_))))
      have F5 := F4.set hn5 hs5
      dsimp only at hs5
      have hLI : I ≠ L := by have := F.lb; have := F.bI; omega
      have hit5 : IsItemIter h5 I du (i + 1) kvs.length ep kv uval := (hs5.2 _ hLI).trans ((hs₄.2 _ hLI).trans hit3)
      have hI5 : I < h5.objs.size := Heap.lt_size hit5
      clear F4 F3 F2 F1 hit3 hit hs5 hs₄ hx₃ hs₂ hk₁ heo ht₁ ht₂ hz₁ hz₂ he₂ hn5 hn₄ hIH hI3 dux dvx hbh
      intro H'
      dsimp only
      have dv5 := (dv1.keep F5.C.gg).keep F5.C.gh
      have hlk := dv2.look key
      have eidx : τu.length - (τu.length - i) = i := Nat.sub_sub_self hi
      refine seg_execs_cons (seg_If (wpAny_isTrue_Compare1 (ldN F5.ns rfl (ldN F5.ns mv ?_))))
      refine wpAny_notIn_of (knd := intKind P0 w) hkey (not_sys bv) dv5.dictOf.mapOf (wpAny_truthy_bool ?_)
      generalize hva : valueAt kws key = va at hlk ⊢
      cases hm : tabAt τv key with
      | none =>
        rw [hm] at hlk
        cases hlk
        simp only [Option.isSome_none, Bool.not_false, if_true]
        refine seg_execs_cons (seg_Yield rfl rfl rfl (wpAny_Constant_bool (fun kap hkap => ?_)))
        refine MY_miss elen (by rw [eidx]; exact hp1) hm F5.C F5.hh (fun x s₃ => hkap x s₃ ?_)
        refine seg_execs_cons (seg_step (wpAny_Return_none ?_))
        refine seg_leaf (.ok (.ret .none)) ?_
        rw [hk]
        exact seg_end (.ok (.ret .none)) ⟨rfl, ⟨Nat.sub_le _ _, .inr (by rw [eidx]; simp only [after, haf, hp1, hm])⟩, s₃.heap, s₃.toks, rfl, fun _ _ _ _ e => e⟩
      | some q =>
        rw [hm] at hlk
        cases hlk with
        | @some vv _ hvq =>
        simp only [Option.isSome_some, Bool.not_true, Bool.false_eq_true, if_false]
        have okS := ok.sig i σ haf
        have haf' : after τu τv (i + 1) = stepF σ p1 q := by simp only [after, haf, hp1, hm]
        have hp1s : p1.small := ok.su _ (List.mem_of_getElem? hp1)
        have hqs : q.small := tabAt_small ok.sv hm
        have G5 := G2.up F5.C.gg
        obtain ⟨n1, c1⟩ := okS.chain p1
        obtain ⟨n2, c2⟩ := okS.chain q
        refine seg_execs_nil (seg_execs_cons (seg_AssignYield rfl rfl rfl rfl (wpAny_mono (Q := fun v s' => ∃ c6 h6, Hz gi b I hq1 c6 h6 L (fun y => if y = "uval" then some uval else if y = "key" then some kv else m' y) ∧ IsItemIter h6 I du (i + 1) kvs.length ep kv uval ∧
          ∀ k : Resume → Shared → Prop, (∀ val' s₃ c₃, Cur gi b I c₃ s₃.heap → (∀ (a : Nat) o, a = L ∨ a = I → h6.get? a = some o → s₃.heap.get? a = some o) → IsRes c₃ val' (after τu τv (τu.length - (τu.length - i) + 1)) → k (.send val') s₃) →
            MY w mg mb gi b L I τu τv (τu.length - i) ⟨hq1, gn1, dr1, tk1, os1⟩ v s' k) (E := fun _ _ => False) ?_ (fun v s' hx => ?_) (fun _ _ z => z))))
        · refine Call_Name rfl (nameG G5 F5.C.gh (by k_is) (callWith_K G5.k (by k_is) (spliced_more (ldN F5.ns rfl (spliced_more (Subscript_ (ldN F5.ns mv (ldN F5.ns rfl ?_))))))))
          refine tail_any (dv5.dictOf.typeIs) slot_dict_getitem.lookup ?_ (by with_unfolding_all rfl)
          refine wpAny_getItem_of (knd := intKind P0 w) hkey dv5.dictOf.mapOf hva ?_
          refine spliced_more (ldN F5.ns ms (spliced_none ?_))
          refine ⟨G5.k.keeps F5.C.gh, ?_⟩
          dsimp only [List.nil_append, List.cons_append]
          by_cases hvar : p1.isVar = true ∨ q.isVar = true
          · refine unifyV_spec G5 F5.C.gh (Rm.le (Rm.overL hroom2) (by omega)) hS okS.vals okS.len (hu1.up F5.C.gg) hp1s (hvq.up F5.C.gg) hqs c1 c2 hvar (fun L2 z y g6 h6 tk6 gs m6 x6 hy hz hn6 hL6 hlt6 hvo => ?_)
            have F6 := F5.ext x6 hI5
            refine ⟨g6, h6, F6, x6.hh _ _ hit5, fun k hk' => ?_⟩
            dsimp only at hlt6
            have := F5.C.lt
            refine MY_gen elen (by rw [eidx]; exact hp1) hm F6.C F6.hh hy hz hn6 hL6 (by omega) (by omega) ⟨_, x6.hh _ _ hit5⟩ (by rw [eidx, haf']; exact hvo) hk'
          · have ep1 : p1.isVar = false := by cases hb : p1.isVar with | true => exact absurd (.inl hb) hvar | false => rfl
            have eq1 : q.isVar = false := by cases hb : q.isVar with | true => exact absurd (.inr hb) hvar | false => rfl
            cases p1 with
            | var t => cases ep1
            | num j1 =>
              cases q with
              | var t => cases eq1
              | num j2 =>
                cases hu1 with
                | num _ t1 =>
                  cases hvq with
                  | num _ t2 =>
                    refine unifyN_spec G5 F5.C.gh (Rm.le (Rm.overL hroom2) (by omega)) (fun h6 tk6 x6 => ?_)
                    have F6 := F5.ext x6 hI5
                    refine ⟨c, h6, F6, x6.hh _ _ hit5, fun k hk' => ?_⟩
                    dsimp only
                    refine MY_val elen (by rw [eidx]; exact hp1) hm F6.C F6.hh ?_ hk'
                    rw [eidx, haf']
                    show IsRes c _ (stepS σ (walkF σ 8 (.num j1)) (walkF σ 8 (.num j2)))
                    have w1 : walkF σ 8 (.num j1) = .num j1 := rfl
                    have w2 : walkF σ 8 (.num j2) = .num j2 := rfl
                    rw [w1, w2]
                    show IsRes c _ (if j1 = j2 then some σ else none)
                    by_cases e12 : j1 = j2
                    · rw [if_pos e12, if_pos e12]; exact .some hS
                    · rw [if_neg e12, if_neg e12]; exact .no
        obtain ⟨c6, h6, F6, hit6, mk⟩ := hx
        intro kap hkap
        refine mk kap (fun val' s₃ c₃ C₃ hO hr => hkap val' s₃ ?_)
        rw [eidx] at hr
        obtain ⟨hp3, gn3, dr3, tk3, os3⟩ := s₃
        dsimp only at C₃ hO ⊢
        have F7 : Hz gi b I hp3 c₃ hp3 L _ := ⟨C₃, F6.ns.at (fun o e => hO L o (.inl rfl) e), fun _ _ _ _ e => e, (C₃.low L (Nat.le_of_lt F6.lb)).trans ((F6.C.low L (Nat.le_of_lt F6.lb)).symm.trans F6.offL), F6.lb, F6.bI⟩
        have hit7 := hO I _ (.inr rfl) hit6
        refine stN F7.ns (fun h8 hn8 hs8 => ?_)
        have F8 := F7.set hn8 hs8
        dsimp only at hs8 ⊢
        have hit8 := (hs8.2 I hLI).trans hit7
        refine seg_execs_cons (seg_If (wpAny_isTrue_Compare1 (ldN F8.ns rfl (wpAny_Constant_bool ?_))))
        generalize hres : after τu τv (i + 1) = res at hr
        cases hr with
        | no =>
          refine wpAny_is_self rfl (wpAny_truthy_bool ?_)
          simp only [if_true]
          refine seg_execs_cons (seg_step (wpAny_Return_none ?_))
          refine seg_leaf (.ok (.ret .none)) ?_
          rw [hk]
          exact seg_end (.ok (.ret .none)) ⟨rfl, ⟨Nat.sub_le _ _, .inr (by rw [eidx]; exact hres)⟩, h8, _, rfl, fun a o h1 h2 e => (hs8.2 a h1).trans e⟩
        | @some D' σ' hS' =>
          refine wpAny_is_other rfl (by intro e; cases e) (wpAny_truthy_bool ?_)
          simp only [Bool.false_eq_true, if_false]
          refine seg_execs_nil ?_
          dsimp only
          refine seg_again rfl (hnext hiN _ _ ⟨h8, _, _, c₃, D', σ', kv, uval, rfl, F8, mu, mv, rfl, hS', hres, hit8⟩)
  · rw [show ((τu.length : Int) != (τv.length : Int)) = true from by simp only [bne_iff_ne]; omega]
    simp only [if_true]
    refine seg_execs_cons (seg_Yield rfl rfl rfl (wpAny_Constant_bool (fun kap hk => ?_)))
    refine MY_len elen F.C F.hh (fun x s₃ => hk x s₃ ?_)
    refine seg_execs_cons (seg_step (wpAny_Return_none ?_))
    exact seg_end (.ok (.ret .none)) ⟨rfl, ⟨Nat.le_refl _, .inl elen⟩, s₃.heap, s₃.toks, rfl, fun _ _ _ _ e => e⟩
end
end Mine
end
section
open PySem PySem.W PySem.Calls PyProof.Rows
set_option maxRecDepth 100000
set_option maxHeartbeats 4000000
namespace Mine
theorem MAPG.up {w mg mb} {gc gc' : Heap} {m L τu τv gs} (h : MAPG w mg mb gc m L τu τv gs) (s : Sub gc gc') : MAPG w mg mb gc' m L τu τv gs :=
  ⟨h.1, fun A s₀ gi b G sub hg r hh n o l v => h.2 A s₀ gi b G (s.trans sub) hg r hh n o l v⟩
theorem IsTab.obj {w g d τ} (h : IsTab w g d τ) : ∃ o, g.get? d = some o ∧ o.cls = .type "dict" := by
  obtain ⟨_, kvs, ep, ⟨o, es, ho, hx, _⟩, _⟩ := h
  exact ⟨o, ho, hx.1⟩
section
variable {w : World} {mg mb : Str → Option Value} {A : Around} {E : Value → Shared → Prop} {s : Shared} {g : Heap}
theorem isvarD_spec {d : Addr} {o : Obj} {Q : Value → Shared → Prop} (G : Gd w mg mb g) (hg : Sub g s.heap) (hroom : A.depth < recursionLimit) (ho : g.get? d = some o) (hc : o.cls = .type "dict")
    (h : ∀ h' tk, Ext g s.heap g h' → Q (.bool false) { s with heap := h', toks := tk }) :
    wpAny (model P0 w) A (call (.ref 197) [.ref d] []) Q E s := by
  refine wpAny_call ?_
  refine callZ G hg hroom (binds := [("o", .ref d)]) (by k_is) (by k_is) (BindsTo.of_eq rfl) (by decide) (locs rfl) (fun L h₁ F => ?_)
  dsimp only
  refine wpAny_execs_cons (wpAny_Return_some ?_)
  refine Call_Name rfl ?_
  refine nameB G F.x.gh (by k_is) (by boot_fast) (by decide) ?_
  refine callWith_builtin rfl ?_
  refine evalArgs_plain (spliced_more (ldZ F rfl (spliced_more (nameG G F.x.gh (by k_is) (spliced_none ?_)))))
  refine isinst_no_dict (G.k.keeps F.x.gh) (F.x.gh _ _ ho) hc (by k_is) (by k_is) (by k_is) ?_
  exact h _ _ F.x
theorem unifyT_spec {du dv d0 : Nat} {τu τv : Tab} {Q : Value → Shared → Prop} (G : Gd w mg mb g) (hg : Sub g s.heap) (hroom : Rm 4 A)
    (hU : IsTab w g du τu) (hV : IsTab w g dv τv) (hD : IsSub g d0 []) (ok : OkTabs τu τv)
    (h : ∀ (L z : Nat) (y : Nat) g' h' tk gs m, Ext g s.heap g' h' → IsGenr g' y (.ref z) → IsG g' z s.gens.size → h'.Ns L m → g'.get? L = none → s.heap.objs.size ≤ L → MAPG w mg mb g' m L τu τv gs →
      Q (.ref y) { s with heap := h', toks := tk, gens := s.gens.push gs }) :
    wpAny (model P0 w) A (call (.ref 219) [.ref du, .ref dv, .ref d0] []) Q E s := by
  refine wpAny_call ?_
  refine callZ G hg hroom.depth (binds := [("u", .ref du), ("v", .ref dv), ("s", .ref d0)]) (by k_is) (by k_is) (BindsTo.of_eq rfl) (by decide) (locs rfl) (fun L h₁ F => ?_)
  dsimp only
  obtain ⟨ou, hou, hcu⟩ := hU.obj
  obtain ⟨ov, hov, hcv⟩ := hV.obj
  refine wpAny_execs_cons (wpAny_If (wpAny_isTrue_BoolOp (wpAny_allTrue_Or_cons (isTrue_plain ?_))))
  refine Call_Name rfl (nameG G F.x.gh (by k_is) (callWith_K G.k (by k_is) (spliced_more (ldZ F rfl (spliced_none ?_)))))
  refine ⟨G.k.keeps F.x.gh, ?_⟩
  dsimp only [List.nil_append]
  refine isvarD_spec G F.x.gh hroom.deeper.depth hou hcu (fun h2 tk2 x2 => wpAny_truthy_bool ?_)
  have F2 := F.ext x2
  simp only [Bool.false_eq_true, if_false]
  refine wpAny_allTrue_Or_cons (isTrue_plain ?_)
  refine Call_Name rfl (nameG G F2.x.gh (by k_is) (callWith_K G.k (by k_is) (spliced_more (ldZ F2 rfl (spliced_none ?_)))))
  refine ⟨G.k.keeps F2.x.gh, ?_⟩
  dsimp only [List.nil_append]
  refine isvarD_spec G F2.x.gh hroom.deeper.depth hov hcv (fun h3 tk3 x3 => wpAny_truthy_bool ?_)
  have F3 := F2.ext x3
  simp only [Bool.false_eq_true, if_false]
  refine wpAny_allTrue_Or_nil ?_
  simp only [Bool.false_eq_true, if_false]
  refine wpAny_execs_nil (wpAny_execs_cons (wpAny_If (wpAny_isTrue_BoolOp (wpAny_allTrue_Or_cons (wpAny_isTrue_BoolOp (wpAny_allTrue_And_cons (isTrue_plain ?_)))))))
  refine Call_Name rfl (nameB G F3.x.gh (by k_is) (by boot_fast) (by decide) (callWith_builtin rfl (evalArgs_plain (spliced_more (ldZ F3 rfl (spliced_more (nameB (v := .type "tuple") G F3.x.gh (by k_is) (by boot_fast) (by decide) (spliced_none ?_))))))))
  refine IsiPair.dict_tuple (F3.x.gh _ _ hou) hcu (wpAny_truthy_bool ?_)
  simp only [Bool.false_eq_true, if_false]
  refine wpAny_allTrue_Or_cons (wpAny_isTrue_BoolOp (wpAny_allTrue_And_cons (isTrue_plain ?_)))
  refine Call_Name rfl (nameB G F3.x.gh (by k_is) (by boot_fast) (by decide) (callWith_builtin rfl (evalArgs_plain (spliced_more (ldZ F3 rfl (spliced_more (nameB (v := .type "list") G F3.x.gh (by k_is) (by boot_fast) (by decide) (spliced_none ?_))))))))
  refine IsiPair.dict_list (F3.x.gh _ _ hou) hcu (wpAny_truthy_bool ?_)
  simp only [Bool.false_eq_true, if_false]
  refine wpAny_allTrue_Or_nil ?_
  simp only [Bool.false_eq_true, if_false]
  refine wpAny_execs_nil (wpAny_execs_cons (wpAny_If (wpAny_isTrue_BoolOp (wpAny_allTrue_And_cons (isTrue_plain ?_)))))
  refine Call_Name rfl (nameB G F3.x.gh (by k_is) (by boot_fast) (by decide) (callWith_builtin rfl (evalArgs_plain (spliced_more (ldZ F3 rfl (spliced_more (nameB (v := .type "dict") G F3.x.gh (by k_is) (by boot_fast) (by decide) (spliced_none ?_))))))))
  refine IsiPair.dict_dict (F3.x.gh _ _ hou) hcu (wpAny_truthy_bool ?_)
  simp only [if_true]
  refine wpAny_allTrue_And_cons (isTrue_plain ?_)
  refine Call_Name rfl (nameB G F3.x.gh (by k_is) (by boot_fast) (by decide) (callWith_builtin rfl (evalArgs_plain (spliced_more (ldZ F3 rfl (spliced_more (nameB (v := .type "dict") G F3.x.gh (by k_is) (by boot_fast) (by decide) (spliced_none ?_))))))))
  refine IsiPair.dict_dict (F3.x.gh _ _ hov) hcv (wpAny_truthy_bool ?_)
  simp only [if_true]
  refine wpAny_allTrue_And_nil ?_
  simp only [if_true]
  refine wpAny_execs_cons (wpAny_Return_some ?_)
  refine Call_Name rfl (nameG G F3.x.gh (by k_is) (callWith_K G.k (by k_is) (spliced_more ?_)))
  refine Call_Name rfl (nameG G F3.x.gh (by k_is) (callWith_K G.k (by k_is) (spliced_more (ldZ F3 rfl (spliced_more (ldZ F3 rfl (spliced_more (ldZ F3 rfl (spliced_none ?_)))))))))
  refine ⟨G.k.keeps F3.x.gh, ?_⟩
  dsimp only [List.nil_append, List.cons_append]
  refine map_call G F3.x.gh (Rm.le hroom.deeper (by omega)) hU hV hD ok (fun L2 z g4 h4 tk4 gs m4 x4 hz hn hL hlt hvo => spliced_none ?_)
  have F4 := F3.ext x4
  have G4 := G.up F4.x.gg
  refine ⟨G4.k.keeps F4.x.gh, ?_⟩
  dsimp only [List.nil_append, List.cons_append]
  have dp := hroom.1
  refine wpAny_call (gen_make G4 F4.x.gh (by rw [depth_deeper]; omega) (fun g5 h5 tk5 y x5 hy => ?_))
  have F5 := F4.ext x5
  dsimp only
  exact h L2 z y g5 h5 _ gs m4 F5.x hy (hz.up x5.gg) (hn.keeps x5.hh) ((x5.new _ hn.lt).trans hL) (Nat.le_trans F3.x.sz hlt) (hvo.up x5.gg)
end
end Mine
end
section
open PySem PySem.W PySem.Calls PyProof.Rows
set_option maxRecDepth 100000
set_option maxHeartbeats 4000000
namespace Mine
theorem slot_gen_send : Slot "generator" "send" "generator.send" :=
  .of (owner := "generator") (n := "send") (by rw [typeLookup_type, builtinLookup_eq_fast]; kernel_rfl) (by decide +kernel) (by decide +kernel) (by decide +kernel)
    (by first | exact .inl (by decide +kernel) | exact .inr (by decide +kernel)) (by rw [isSubtype_type]; kernel_rfl)
theorem entry_gen_send : entryFor table "generator.send" = some Builtin.«generator.send» := entryFor_of_fast (by kernel_rfl)
theorem args_gen_send (a b : Value) : argsOk "generator.send" ⟨[a, b], []⟩ := by unfold argsOk; kernel_rfl
theorem type_gen_send : typeOf (.builtin "generator.send") = pure (.type "method_descriptor") := by show builtinType _ = _; rw [builtinType_eq_fast]; kernel_rfl
theorem plainAttrs_gen : PlainAttrs "generator" :=
  ⟨⟨"object.__getattribute__", by rw [typeLookup_type, builtinLookup_eq_fast]; kernel_rfl, by decide +kernel⟩, by rw [typeLookup_type, builtinLookup_eq_fast]; kernel_rfl⟩
/-- a new exception, its traceback not laid yet -/
structure NewE (h h' : Heap) (e : Nat) (X : String) : Prop where
  keeps : Sub h h'
  new : h.get? e = none
  there : ∃ ob vs a0, h'.get? e = some ob ∧ ob.cls = .type X ∧ ob.data = .fields vs ∧ vs[0]? = some a0 ∧ vs[1]? = some .none
section
variable {w : World} {A : Around} {E : Value → Shared → Prop} {s : Shared}
theorem pop_at {D : Addr} {p : List Value} {y : Value} {n : Nat} {Q : Value → Shared → Prop} (ho : s.heap.get? D = some (listOf (p ++ [y]).toArray n)) (hz : p.length + 1 ≤ sizeLine)
    (h : ∀ h', Heap.SameBut D s.heap h' → h'.get? D = some (listOf p.toArray (n + 1)) → Q y { s with heap := h' }) : wpAny (model P0 w) A (call (.builtin "list.pop") [.ref D]) Q E s := by
  have hz' : (p ++ [y]).toArray.size ≤ sizeLine := by rw [List.size_toArray, List.length_append]; exact hz
  have hk : (p ++ [y]).toArray.size - 1 = p.length := by rw [List.size_toArray, List.length_append]; rfl
  have hy : (p ++ [y]).toArray[(p ++ [y]).toArray.size - 1]? = some y := by rw [hk]; simp
  refine call_meets PySem.F.slot_list_pop ⟨_, ho, rfl⟩ PySem.F.entry_list_pop (PySem.F.args_list_pop_1 _) (PySem.MeetsSeq.list_pop_last D _ n y hy hz') ⟨ho, h _ (Heap.SameBut.update ..) ?_⟩
  have q := PySem.IsL.update ho (fun xs => xs.eraseIdxIfInBounds ((p ++ [y]).toArray.size - 1))
  have e2 : (p ++ [y]).toArray.eraseIdxIfInBounds ((p ++ [y]).toArray.size - 1) = p.toArray := by rw [hk, kl_erase, List.append_nil]
  rw [e2, if_neg (by simp)] at q
  exact q
theorem append_at' {D : Addr} {p : List Value} {y : Value} {n : Nat} {Q : Value → Shared → Prop} (ho : s.heap.get? D = some (listOf p.toArray n)) (hz : p.length ≤ 1000)
    (h : ∀ h', Heap.SameBut D s.heap h' → h'.get? D = some (listOf (p ++ [y]).toArray (n + 1)) → Q .none { s with heap := h' }) : wpAny (model P0 w) A (call (.builtin "list.append") [.ref D, y]) Q E s := by
  refine append_at ho (fun h' hs hd => h h' hs ?_) (by rw [List.size_toArray, sizeLine_eq]; omega)
  rw [hd]
  show some (listOf _ _) = some (listOf _ _)
  simp
theorem list_meth {D : Addr} {its : Array Value} {n : Nat} {name : Str} {id : String} {pl : Sem Bool} {Q : Value × List Value → Shared → Prop} (ho : s.heap.get? D = some (listOf its n)) (slot : Slot "list" name id) (hty : typeOf (.builtin id) = pure (.type "method_descriptor"))
    (h : Q (.builtin id, [.ref D]) s) : wpAny (model P0 w) A (getMethod (.ref D) name pl) Q E s :=
  getMethod_builtin ⟨_, ho, rfl⟩ PySem.F.plainAttrs_list slot hty (fun a e => by cases e; exact ⟨_, ho, rfl⟩) h
theorem last_at {D : Addr} {p : List Value} {y : Value} {n : Nat} {tk : Tok} {Q : Value → Shared → Prop} (ho : s.heap.get? D = some (listOf (p ++ [y]).toArray n)) (h : Q y s) :
    wpAny (model P0 w) A (getItem (.ref D) (.int (-1) tk)) Q E s := by
  refine wpAny_getItem_list_neg (items := (p ++ [y]).toArray) ⟨_, ho, rfl, n, rfl⟩ (by decide) ?_ (by decide) ?_ h
  · rw [List.size_toArray, List.length_append, List.length_singleton]; omega
  · have : ((-1 : Int) + ((p ++ [y]).toArray.size : Int)).toNat = p.length := by rw [List.size_toArray, List.length_append, List.length_singleton]; omega
    rw [this]; simp
theorem gen_meth {z : Addr} {gn : Nat} {pl : Sem Bool} {Q : Value × List Value → Shared → Prop} (hz : s.heap.IsGen z gn) (hd : ∀ o, s.heap.get? z = some o → o.dict = none)
    (h : Q (.builtin "generator.send", [.ref z]) s) : wpAny (model P0 w) A (getMethod (.ref z) "send" pl) Q E s :=
  getMethod_builtin hz.typeIs plainAttrs_gen slot_gen_send type_gen_send (fun a e => by cases e; obtain ⟨o, nm, qn, ho, _⟩ := hz; exact ⟨o, ho, hd o ho⟩) h
theorem send_spec {z : Addr} {gn n : Nat} {gs : GenState} {v : Value} {R : GenEnd} {Y : Protocol} {Q : Value → Shared → Prop} (hh : A.handled = none) (hl : s.heap.NoLimit) (hroom : A.depth < recursionLimit)
    (hz : s.heap.IsGen z gn) (hgs : s.gens[gn]? = some gs) (hgo : gs.Goes (model P0 w) A.in1 R Y n (.send v) (s.setGen gn .running))
    (hR : ∀ r s₁, R n (s.setGen gn .running) r s₁ → r = .ok (.ret .none) ∧ ∀ h' e, NewE s₁.heap h' e "StopIteration" → E (.ref e) { s₁.setGen gn .finished with heap := h' })
    (hY : ∀ v s₁ gs', gs'.bare = true → Y (n - 1) (s.setGen gn .running) v s₁ (fun r' s'' => match n with | 0 => False | m + 1 => gs'.Goes (model P0 w) A.in1 R Y m r' s'') → Q v (s₁.setGen gn gs')) :
    wpAny (model P0 w) A (call (.builtin "generator.send") [.ref z, v]) Q E s := by
  refine wpAny_call_entry slot_gen_send hz.typeIs entry_gen_send ?_ (args_gen_send _ _)
  show wpAny _ A.in1 (Builtin.Generator.genWake (.ref z) (.send v)) _ _ s
  unfold Builtin.Generator.genWake
  refine wpAny_bind (wpAny_holding (wpAny_genNumber hz (wpAny_bind (wpAny_genState hgs ?_))))
  cases gs with
  | running => exact hgo.elim
  | finished => exact hgo.elim
  | _ =>
    refine wpAny_bind (wpAny_roomToWake hl hroom ?_)
    show wpAny _ A.in1 (.resume gn (.send v) [] _) _ _ s
    refine wpAny_resumeQ hgs hgo (fun x s₁ hx => ?_) (fun v s₁ gs' hb hv => ?_)
    · obtain ⟨rfl, hp⟩ := hR x s₁ hx
      show wpAny _ A.in1 (newExc (.type "StopIteration") [] >>= _) _ _ _
      refine wpAny_bind ?_
      simp only [newExc, newTuple]
      refine wpAny_bind (wpAny_newObj_type ?_ (by size_fits))
      refine wpAny_bind (m := firstArgMember _ _) (wpAny_of_eq (a := Value.none) (by first | rfl | (simp only [firstArgMember]; rfl)) ?_)
      refine wpAny_newObj_type ?_ (by size_fits)
      simp only [raiseNew]
      refine wpAny_bind (wpAny_bind (wpAny_handled ?_))
      first | rw [show A.in1.handled = none from hh] | rw [hh]
      refine wpAny_throw ?_
      refine hp _ _ ⟨fun b o hb => Heap.get?_push_of_some _ (Heap.get?_push_of_some _ hb), get_size_none (by show _ ≤ (Heap.push _ _).objs.size; rw [Heap.size_push]; exact Nat.le_succ _), _, _, _, Heap.get?_push_size _ rfl, rfl, rfl, rfl, rfl⟩
    · exact wpAny_pure ⟨v, rfl, hY v s₁ gs' hb hv⟩
end
end Mine
end
section
open PySem PySem.W PySem.Calls PyProof.Rows
set_option maxRecDepth 100000
set_option maxHeartbeats 4000000
namespace Mine
/-- the places of the frames of l -/
def fr (l : List Env) (a : Nat) : Prop := ∃ env ∈ l, env.frame = some a
def Frm (h : Heap) (l : List Env) : Prop := ∀ env ∈ l, env.scope.kind ≠ .module ∧ ∃ (L : Nat) (o : Obj), env.frame = some L ∧ h.get? L = some o ∧ ∀ vs, o.data ≠ .fields vs
theorem Frm.up {h h' : Heap} {l} (x : Frm h l) (k : ∀ (a : Nat) o, fr l a → h.get? a = some o → (∀ vs, o.data ≠ .fields vs) → ∃ o', h'.get? a = some o' ∧ o'.data = o.data) : Frm h' l := fun env he => by
  obtain ⟨h1, L, o, h2, h3, h4⟩ := x env he
  obtain ⟨o', e1, e2⟩ := k L o ⟨env, he, h2⟩ h3 h4
  exact ⟨h1, L, o', h2, e1, fun vs q => h4 vs (e2 ▸ q)⟩
theorem Frm.fun {h base : Heap} : ∀ {l : List Env}, Frm h l → (∀ a, fr l a → base.get? a = none) → h.FunFrames base l
  | [], _, _ => trivial
  | env :: l, x, hb => by
    obtain ⟨h1, L, o, h2, h3, h4⟩ := x env (List.mem_cons_self)
    exact ⟨h1, ⟨L, o, h2, hb L ⟨env, List.mem_cons_self, h2⟩, h3, h4⟩, Frm.fun (fun e he => x e (List.mem_cons_of_mem _ he)) fun a ⟨e, he, q⟩ => hb a ⟨e, List.mem_cons_of_mem _ he, q⟩⟩
section
variable {w : World} {mg mb : Str → Option Value} {A : Around} {E : Value → Shared → Prop} {s : Shared} {g : Heap}
theorem catch_spec {h : Heap} {env : Env} {outer : List Env} {L e : Nat} {np pos : Pos} {b₀ : Stmt} {suite : List Stmt} {Q : Flow → Shared → Prop} (G : Gd w mg mb g) (hg : Sub g h) (hfr : A.frames = some (env :: outer)) (hf : env.frame = some L)
    (hFr : Frm h (env :: outer)) (hoff : ∀ a, fr (env :: outer) a → g.get? a = none) (hx : NewE h s.heap e "StopIteration")
    (hG : env.globals = mainGlobals) (hB : env.builtins = builtinsNs) (hk : env.scope.kind = .function) (hl : env.kindOf "StopIteration" = some .globalImplicit)
    (k : ∀ h', (∀ (a : Nat) o, ¬ fr (env :: outer) a → h.get? a = some o → h'.get? a = some o) → h.UpToSlots h' → 
      wpAny (model P0 w) (A.mark (some (.ref e))) (execs (b₀ :: suite) env) Q (fun _ _ => False) { s with heap := h' }) :
    wpAny (model P0 w) A (noteFrame (.ref e) env) (fun _ s₂ => wpAny (model P0 w) A (setFlight (.ref e) none) (fun _ s₃ =>
      wpAny (model P0 w) A (handleBy (.ref e) env [.ExceptHandler (some (.Name "StopIteration" np)) none (b₀ :: suite) pos]) Q E s₃) E s₂) E s := by
  obtain ⟨base, hbase⟩ : ∃ base, base = only h (fun a => ¬ fr (env :: outer) a) := ⟨_, rfl⟩
  have bs : Sub base h := by rw [hbase]; exact only_sub
  have bo : ∀ a, fr (env :: outer) a → base.get? a = none := fun a ha => by rw [hbase]; exact only_no (fun q => q ha)
  have bn : ∀ (a : Nat) o, ¬ fr (env :: outer) a → h.get? a = some o → base.get? a = some o := fun a o ha e => by rw [hbase, only_yes ha]; exact e
  obtain ⟨ob, vs, a0, he, hcls, hdat, h0, h1⟩ := hx.there
  have hF := (hFr.up (h' := s.heap) fun a o _ e _ => ⟨o, hx.keeps _ _ e, rfl⟩).fun bo
  have hen : base.get? e = none := by
    cases q : base.get? e with
    | none => rfl
    | some o => have := bs _ _ q; rw [hx.new] at this; cases this
  unfold noteFrame
  simp only [hf]
  refine wpAny_bind (wpAny_field he hdat h1 ?_)
  rw [if_neg (by decide)]
  refine wpAny_entryW hfr hF hf he (fun b o hb => hx.keeps _ _ (bs _ _ hb)) hen hdat (Array.getElem?_eq_some_iff.mp h1).1 h0 fun h2 hN => ?_
  obtain ⟨n1, n2, n3, n4⟩ := hN
  refine wpAny_setFlight_noneW (s := { s with heap := h2 }) n1 n2 n3 fun h3 m1 m2 m3 m4 => ?_
  obtain ⟨ob3, hob3, hc3⟩ := m3.at.there
  have hg3 : Sub g h3 := fun a o ea => m1 a o (bn a o (fun q => by rw [hoff a q] at ea; cases ea) (hg a o ea))
  refine wpAny_handleBy_builtin (X := "StopIteration") (T := "StopIteration") (b := true) (by rw [isSubtype_type]; kernel_rfl) (by rw [isSubtype_type]; kernel_rfl) (by rw [isSubtype_type]; kernel_rfl) ?_
  refine nameB (v := .type "StopIteration") G hg3 (by k_is) (by first | boot_fast | kernel_rfl) (by decide) ?_ hG hB hk hl
  refine ⟨rfl, ⟨ob3, hob3, by rw [hc3, hcls]⟩, ?_⟩
  rw [if_pos rfl]
  refine wpAny_setFlight_noneW (s := { s with heap := h3 }) m1 m2 m3.at fun h4 p1 p2 p3 p4 => ?_
  refine wpAny_mono (k h4 (fun a o ha ea => p1 a o (bn a o ha ea)) (fun a o ea hnf => ?_)) (fun _ _ z => z) (fun _ _ z => z.elim)
  obtain ⟨sl, e1⟩ := n4 a o (hx.keeps _ _ ea) hnf
  exact ⟨sl, p4 a _ (m4 a _ e1 hnf) hnf⟩
end
end Mine
end
section
open PySem PySem.W PySem.Calls PyProof.Rows
set_option maxRecDepth 100000
set_option maxHeartbeats 4000000
namespace Mine
/-- what the unifier answers -/
def fin (τu τv : Tab) : Option Sig := if τu.length ≠ τv.length then none else after τu τv τu.length
theorem after_none {τu τv : Tab} {i : Nat} (h : after τu τv i = none) : ∀ j, i ≤ j → after τu τv j = none := by
  intro j hj
  induction j with
  | zero => have : i = 0 := by omega
            subst this; exact h
  | succ j ih =>
    by_cases e : i = j + 1
    · subst e; exact h
    · have := ih (by omega)
      simp only [after, this]
theorem fin_none {τu τv : Tab} {i : Nat} (h : after τu τv i = none) (hi : i ≤ τu.length) : fin τu τv = none := by
  unfold fin
  split
  · rfl
  · exact after_none h _ hi
def Rel (τu τv : Tab) (n : Nat) (r : Option Sig) : Prop := r = fin τu τv ∨ (τu.length = τv.length ∧ τu.length - n < τu.length ∧ r = after τu τv (τu.length - n + 1))
/-- how the generator over the tables goes on -/
def Cont (w : World) (mg mb : Str → Option Value) (A : Around) (gi : Heap) (D L I : Nat) (τu τv : Tab) (hy : Heap) (n : Nat) (r : Option Sig) (gs : GenState) : Prop :=
  ∀ val' s₃ c₃, Cur gi D I c₃ s₃.heap → (∀ (a : Nat) o, a = L ∨ a = I → hy.get? a = some o → s₃.heap.get? a = some o) → IsRes c₃ val' r →
    gs.Goes (model P0 w) A (MR L I τu τv) (MY w mg mb gi D L I τu τv) n (.send val') s₃
inductive Phase (w : World) (mg mb : Str → Option Value) (A : Around) (gi : Heap) (D L gM y0 : Nat) (τu τv : Tab) : Nat → List Value → Value → Value → Heap → Heap → Array GenState → Prop
  | start {h c gn gs m zo} : gn[gM]? = some gs → MAPG w mg mb gi m L τu τv gs → h.Ns L m → Sub gi c →
      Phase w mg mb A gi D L gM y0 τu τv (4 * (τu.length + 1) + 1) [.ref y0] .none zo h c gn
  | one {h c gn gs I hy n r zo} : gn[gM]? = some gs → Cont w mg mb A gi D L I τu τv hy n r gs → (∀ (a : Nat) o, a = L ∨ a = I → hy.get? a = some o → h.get? a = some o) → Rel τu τv n r → D < I → c.get? I = none → IsRes c zo r →
      Phase w mg mb A gi D L gM y0 τu τv (4 * n + 1) [.ref y0] zo zo h c gn
  | two {h c gn gs I hy n r zo y1 z1 gV gsV L2 m2} : gn[gM]? = some gs → Cont w mg mb A gi D L I τu τv hy n r gs → (∀ (a : Nat) o, a = L ∨ a = I → hy.get? a = some o → h.get? a = some o) → Rel τu τv n r → D < I → c.get? I = none →
      gV ≠ gM → gn[gV]? = some gsV → IsGenr c y1 (.ref z1) → IsG c z1 gV → h.Ns L2 m2 → c.get? L2 = none → D < L2 → L2 ≠ I → (∃ o, h.get? I = some o) → VOG w mg mb c m2 L2 r gsV →
      Phase w mg mb A gi D L gM y0 τu τv (4 * n + 3) [.ref y0, .ref y1] .none zo h c gn
  | three {h c gn gs I hy n r zo y1 z1 gV gsV} : gn[gM]? = some gs → Cont w mg mb A gi D L I τu τv hy n r gs → (∀ (a : Nat) o, a = L ∨ a = I → hy.get? a = some o → h.get? a = some o) → Rel τu τv n r → D < I → c.get? I = none → IsRes c zo r →
      gV ≠ gM → gn[gV]? = some gsV → IsGenr c y1 (.ref z1) → IsG c z1 gV →
      (∀ x s₃, ∃ Y, gsV.Goes (model P0 w) A (fun n s₁ r s₂ => r = .ok (.ret .none) ∧ n = 0 ∧ s₂ = s₁) Y 0 (.send x) s₃ ∧ ∀ v s₂, ¬ Y 0 s₃ v s₂ (fun _ _ => False)) →
      Phase w mg mb A gi D L gM y0 τu τv (4 * n + 2) [.ref y0, .ref y1] zo zo h c gn
  | over {h c gn zo} : IsRes c zo (fin τu τv) → Phase w mg mb A gi D L gM y0 τu τv 0 [] zo zo h c gn
theorem bare_set {a : Array GenState} {x : GenState} {i : Nat} (h : AllBare a) (hx : x.bare = true) : AllBare (a.setIfInBounds i x) := by
  intro y hy
  obtain ⟨j, hj, rfl⟩ := Array.mem_iff_getElem.mp hy
  rw [Array.size_setIfInBounds] at hj
  by_cases e : i = j
  · subst e
    rw [Array.getElem_setIfInBounds_self]; exact hx
  · rw [Array.getElem_setIfInBounds_ne hj e]
    exact h _ (Array.getElem_mem hj)
theorem Phase.keep {w mg mb A gi D L gM y0 τu τv k st za zo} {h h' c : Heap} {gn} (p : Phase w mg mb A gi D L gM y0 τu τv k st za zo h c gn)
    (hk : ∀ (a : Nat) o, (a = L ∨ D < a) → h.get? a = some o → h'.get? a = some o) : Phase w mg mb A gi D L gM y0 τu τv k st za zo h' c gn := by
  cases p with
  | start a b d e => exact .start a b (d.at fun o q => hk L o (.inl rfl) q) e
  | one a b d e f g i => exact .one a b (fun x o hx q => hk x o (hx.elim .inl fun q => .inr (q ▸ f)) (d x o hx q)) e f g i
  | two a b d e f g i j k' l m n o p q r =>
    exact .two a b (fun x o hx q => hk x o (hx.elim .inl fun q => .inr (q ▸ f)) (d x o hx q)) e f g i j k' l (m.at fun o' q' => hk _ o' (.inr o) q') n o p (let ⟨o', e'⟩ := q; ⟨o', hk _ o' (.inr f) e'⟩) r
  | three a b d e f g i j k' l m n => exact .three a b (fun x o hx q => hk x o (hx.elim .inl fun q => .inr (q ▸ f)) (d x o hx q)) e f g i j k' l m n
  | over a => exact .over a
/-- the loop's frame, its stack and the rest -/
structure SB (sh gi : Heap) (l : List Env) (Ls D L : Nat) (st : List Value) (za zo : Value) (c h : Heap) (m : Str → Option Value) : Prop where
  gg : Sub gi c
  gh : Sub c h
  low : ∀ a : Nat, a ≤ D → c.get? a = gi.get? a
  ns : h.Ns Ls m
  m1 : m "stack" = some (.ref D)
  m2 : m "res_filter" = some .none
  m3 : m "z_args" = some za
  m4 : m "z_out" = some zo
  lst : ∃ n, h.get? D = some (listOf st.toArray n)
  keep : ∀ (a : Nat) o, ¬ fr l a → a ≠ L → sh.get? a = some o → h.get? a = some o
  up : ∀ (a : Nat) o, fr l a → sh.get? a = some o → (∀ vs, o.data ≠ .fields vs) → ∃ sl, h.get? a = some { o with slots := sl }
/-- what does not change in the loop -/
structure SF (sh gi : Heap) (l : List Env) (Ls D L : Nat) : Prop where
  oL : gi.get? L = none
  oS : gi.get? Ls = none
  oD : gi.get? D = none
  oF : ∀ a, fr l a → gi.get? a = none
  fS : ∀ a, fr l a → a < sh.objs.size
  fL : ¬ fr l L
  lL : L < sh.objs.size
  lS : sh.objs.size ≤ Ls
  lD : Ls < D
section
variable {sh gi : Heap} {l : List Env} {Ls D L : Nat} {st : List Value} {za zo : Value} {c h : Heap} {m : Str → Option Value}
theorem SB.ltD (B : SB sh gi l Ls D L st za zo c h m) : D < h.objs.size := let ⟨_, e⟩ := B.lst; Heap.lt_size e
theorem SB.off (B : SB sh gi l Ls D L st za zo c h m) {a : Nat} (ha : a ≤ D) (e : gi.get? a = none) : c.get? a = none := (B.low a ha).trans e
theorem SB.ext (B : SB sh gi l Ls D L st za zo c h m) {c' h' : Heap} (x : Ext c h c' h') : SB sh gi l Ls D L st za zo c' h' m :=
  ⟨B.gg.trans x.gg, x.gh, fun a ha => (x.new a (Nat.lt_of_le_of_lt ha B.ltD)).trans (B.low a ha), B.ns.keeps x.hh, B.m1, B.m2, B.m3, B.m4, let ⟨n, e⟩ := B.lst; ⟨n, x.hh _ _ e⟩,
    fun a o h1 h2 e => x.hh _ _ (B.keep a o h1 h2 e), fun a o h1 h2 h3 => let ⟨sl, e⟩ := B.up a o h1 h2 h3; ⟨sl, x.hh _ _ e⟩⟩
/-- a step of a generator: what is new is above D, what changes is L or above D -/
theorem SB.wake (B : SB sh gi l Ls D L st za zo c h m) {c' h' : Heap} (S : SF sh gi l Ls D L) (gg : Sub gi c') (gh : Sub c' h') (low : ∀ a : Nat, a ≤ D → c'.get? a = gi.get? a) (hh : ∀ (a : Nat) o, a ≤ D → a ≠ L → h.get? a = some o → h'.get? a = some o) :
    SB sh gi l Ls D L st za zo c' h' m := by
  have s1 := S.lL
  have s2 := S.lS
  have s3 := S.lD
  refine ⟨gg, gh, low, B.ns.at fun o e => hh Ls o (Nat.le_of_lt s3) (by omega) e, B.m1, B.m2, B.m3, B.m4, let ⟨n, e⟩ := B.lst; ⟨n, hh _ _ (Nat.le_refl _) (by omega) e⟩, fun a o h1 h2 e => ?_, fun a o h1 h2 h3 => ?_⟩
  · have := Heap.lt_size e
    exact hh a o (by have t : @LT.lt Nat _ a sh.objs.size := this; omega) h2 (B.keep a o h1 h2 e)
  · obtain ⟨sl, e⟩ := B.up a o h1 h2 h3
    have := S.fS a h1
    exact ⟨sl, hh a _ (by omega) (fun q => S.fL (q ▸ h1)) e⟩
theorem SB.setS (B : SB sh gi l Ls D L st za zo c h m) {h' : Heap} {m' : Str → Option Value} {za' zo' : Value} (S : SF sh gi l Ls D L) (hn : h'.Ns Ls m') (hs : Heap.SameBut Ls h h')
    (m1 : m' "stack" = some (.ref D)) (m2 : m' "res_filter" = some .none) (m3 : m' "z_args" = some za') (m4 : m' "z_out" = some zo') : SB sh gi l Ls D L st za' zo' c h' m' := by
  have s2 := S.lS
  have s3 := S.lD
  refine ⟨B.gg, fun a o e => ?_, B.low, hn, m1, m2, m3, m4, let ⟨n, e⟩ := B.lst; ⟨n, (hs.2 D (Nat.ne_of_gt s3)).trans e⟩, fun a o h1 h2 e => ?_, fun a o h1 h2 h3 => ?_⟩
  · rw [hs.2 a (fun q => by have := B.off (Nat.le_of_lt s3) S.oS; rw [q, this] at e; cases e)]; exact B.gh a o e
  · rw [hs.2 a (Nat.ne_of_lt (Nat.lt_of_lt_of_le (Heap.lt_size e) s2))]; exact B.keep a o h1 h2 e
  · obtain ⟨sl, e⟩ := B.up a o h1 h2 h3
    exact ⟨sl, by rw [hs.2 a (Nat.ne_of_lt (Nat.lt_of_lt_of_le (S.fS a h1) s2))]; exact e⟩
theorem SB.setD (B : SB sh gi l Ls D L st za zo c h m) {h' : Heap} {st' : List Value} {n' : Nat} (S : SF sh gi l Ls D L) (hs : Heap.SameBut D h h') (hd : h'.get? D = some (listOf st'.toArray n')) : SB sh gi l Ls D L st' za zo c h' m := by
  have s2 := S.lS
  have s3 := S.lD
  refine ⟨B.gg, fun a o e => ?_, B.low, B.ns.sameBut hs (Nat.ne_of_lt s3), B.m1, B.m2, B.m3, B.m4, ⟨n', hd⟩, fun a o h1 h2 e => ?_, fun a o h1 h2 h3 => ?_⟩
  · rw [hs.2 a (fun q => by have := B.off (Nat.le_refl _) S.oD; rw [q, this] at e; cases e)]; exact B.gh a o e
  · rw [hs.2 a (Nat.ne_of_lt (Nat.lt_trans (Nat.lt_of_lt_of_le (Heap.lt_size e) s2) s3))]; exact B.keep a o h1 h2 e
  · obtain ⟨sl, e⟩ := B.up a o h1 h2 h3
    exact ⟨sl, by rw [hs.2 a (Nat.ne_of_lt (Nat.lt_trans (Nat.lt_of_lt_of_le (S.fS a h1) s2) s3))]; exact e⟩
/-- an exception was noted in the frames -/
theorem SB.noted (B : SB sh gi l Ls D L st za zo c h m) {h' : Heap} {env : Env} (S : SF sh gi l Ls D L) (hf : env.frame = some Ls) (k1 : ∀ (a : Nat) o, ¬ fr (env :: l) a → h.get? a = some o → h'.get? a = some o) (k2 : h.UpToSlots h') :
    SB sh gi l Ls D L st za zo c h' m := by
  have s2 := S.lS
  have s3 := S.lD
  have nf : ∀ a : Nat, fr (env :: l) a → a = Ls ∨ fr l a := by
    rintro a ⟨e, he, q⟩
    rcases List.mem_cons.mp he with rfl | he
    · rw [hf] at q; injection q with q; exact .inl q.symm
    · exact .inr ⟨e, he, q⟩
  refine ⟨B.gg, fun a o e => k1 a o (fun q => ?_) (B.gh a o e), B.low, k2.ns B.ns, B.m1, B.m2, B.m3, B.m4, let ⟨n, e⟩ := B.lst; ⟨n, k1 _ _ (fun q => ?_) e⟩, fun a o h1 h2 e => k1 a o (fun q => ?_) (B.keep a o h1 h2 e), fun a o h1 h2 h3 => ?_⟩
  · rcases nf a q with q | q
    · have := B.off (Nat.le_of_lt s3) S.oS; rw [q, this] at e; cases e
    · have f1 := S.fS a q
      have := B.off (a := a) (by omega) (S.oF a q); rw [this] at e; cases e
  · rcases nf D q with q | q
    · omega
    · have := S.fS D q; omega
  · rcases nf a q with q | q
    · have := Heap.lt_size e; have t : @LT.lt Nat _ a sh.objs.size := this; omega
    · exact h1 q
  · obtain ⟨sl, e⟩ := B.up a o h1 h2 h3
    obtain ⟨sl', e'⟩ := k2 a _ e h3
    exact ⟨sl', e'⟩
end
end Mine
end
section
open PySem PySem.W PySem.Calls PyProof.Rows
set_option maxRecDepth 100000
set_option maxHeartbeats 4000000
namespace Mine
section
variable {w : World} {mg mb : Str → Option Value} {A : Around} {sh gi : Heap} {l : List Env} {Ls D L gM y0 z0 : Nat} {τu τv : Tab} {st : List Value} {za zo : Value} {c : Heap} {m : Str → Option Value} {s : Shared}
/-- after a generator's answer -/
def After (w : World) (mg mb : Str → Option Value) (A : Around) (sh gi : Heap) (l : List Env) (Ls D L gM y0 : Nat) (τu τv : Tab) (k : Nat) (st : List Value) (za zo : Value) (m : Str → Option Value) (s : Shared) (v : Value) (s' : Shared) : Prop :=
  ∃ c' h' tk' gn' k', s' = { s with heap := h', toks := tk', gens := gn' } ∧ AllBare gn' ∧ k' < k ∧ SB sh gi l Ls D L st za zo c' h' m ∧
    ((∃ r, IsRes c' v r ∧ Phase w mg mb A gi D L gM y0 τu τv k' st v v h' c' gn') ∨ (∃ (y1 : Nat) (z1 : Value), v = .ref y1 ∧ IsGenr c' y1 z1 ∧ Phase w mg mb A gi D L gM y0 τu τv k' (st ++ [v]) .none v h' c' gn'))
/-- after a generator's end -/
def Raised (w : World) (mg mb : Str → Option Value) (A : Around) (sh gi : Heap) (l : List Env) (Ls D L gM y0 : Nat) (τu τv : Tab) (k : Nat) (pre : List Value) (st : List Value) (za zo : Value) (c : Heap) (m : Str → Option Value) (s : Shared) (e : Value) (s' : Shared) : Prop :=
  ∃ h' h'' tk' gn' k' e', e = .ref e' ∧ s' = { s with heap := h'', toks := tk', gens := gn' } ∧ NewE h' h'' e' "StopIteration" ∧ AllBare gn' ∧ k' < k ∧ SB sh gi l Ls D L st za zo c h' m ∧
    Phase w mg mb A gi D L gM y0 τu τv k' pre za zo h' c gn'
theorem afterY {k n' I : Nat} {gs' : GenState} {v : Value} {s₁ : Shared} (S : SF sh gi l Ls D L) (B : SB sh gi l Ls D L [.ref y0] za zo c s.heap m) (hb : AllBare s.gens) (hgM : gM < s.gens.size) (hI : D < I)
    (hY : MY w mg mb gi D L I τu τv n' (s.setGen gM .running) v s₁ (fun r' s'' => gs'.Goes (model P0 w) A (MR L I τu τv) (MY w mg mb gi D L I τu τv) n' r' s'')) (hb' : gs'.bare = true) (hk : 4 * n' + 3 < k) :
    After w mg mb A sh gi l Ls D L gM y0 τu τv k [.ref y0] za zo m s v (s₁.setGen gM gs') := by
  obtain ⟨c', h', tk', C, hh, rest⟩ := hY
  have B' := B.wake S C.gg C.gh C.low hh
  have gsz : (s.gens.setIfInBounds gM .running).size = s.gens.size := Array.size_setIfInBounds ..
  have bare1 : AllBare (s.gens.setIfInBounds gM .running) := bare_set hb rfl
  have at1 : ((s.gens.setIfInBounds gM .running).setIfInBounds gM gs')[gM]? = some gs' := by rw [Array.getElem?_setIfInBounds_self, gsz, if_pos hgM]
  by_cases hne : τu.length ≠ τv.length
  · rw [if_pos hne] at rest
    obtain ⟨rfl, rfl, hk'⟩ := rest
    refine ⟨c', h', tk', _, 4 * n' + 1, rfl, bare_set bare1 hb', by omega, B', .inl ⟨none, .no, .one (r := fin τu τv) at1 (fun val' s₃ c₃ _ _ _ => hk' val' s₃) (fun _ _ _ e => e) (.inl rfl) hI C.off ?_⟩⟩
    rw [fin, if_pos hne]; exact .no
  · rw [if_neg hne] at rest
    have hlen : τu.length = τv.length := by omega
    have hfin : fin τu τv = after τu τv τu.length := by rw [fin, if_neg hne]
    cases hx : τu[τu.length - n']? with
    | none =>
      rw [hx] at rest
      obtain ⟨rfl, hr, hk'⟩ := rest
      rw [← hfin] at hr
      exact ⟨c', h', tk', _, 4 * n' + 1, rfl, bare_set bare1 hb', by omega, B', .inl ⟨_, hr, .one (r := fin τu τv) at1 (fun val' s₃ c₃ _ _ _ => hk' val' s₃) (fun _ _ _ e => e) (.inl rfl) hI C.off hr⟩⟩
    | some kp =>
      obtain ⟨key, p⟩ := kp
      have hlt : τu.length - n' < τu.length := (List.getElem?_eq_some_iff.mp hx).1
      rw [hx] at rest
      dsimp only at rest
      cases hm : tabAt τv key with
      | none =>
        rw [hm] at rest
        obtain ⟨rfl, rfl, hk'⟩ := rest
        have hn : after τu τv (τu.length - n' + 1) = none := by cases ha : after τu τv (τu.length - n') with | none => simp only [after, ha] | some σ => simp only [after, ha, hx, hm]
        have hf : fin τu τv = none := fin_none hn (by omega)
        refine ⟨c', h', tk', _, 4 * n' + 1, rfl, bare_set bare1 hb', by omega, B', .inl ⟨none, .no, .one (r := fin τu τv) at1 (fun val' s₃ c₃ _ _ _ => hk' val' s₃) (fun _ _ _ e => e) (.inl rfl) hI C.off ?_⟩⟩
        rw [hf]; exact .no
      | some q =>
        rw [hm] at rest
        obtain ⟨rest, hk'⟩ := rest
        rcases rest with ⟨rfl, hr⟩ | ⟨L2, z, y, gs2, m2, rfl, rfl, hy, hz, hns, hL2, hB, hI2, hIl, hv⟩
        · exact ⟨c', h', tk', _, 4 * n' + 1, rfl, bare_set bare1 hb', by omega, B', .inl ⟨_, hr, .one at1 (fun val' s₃ c₃ C₃ O r₃ => hk' val' s₃ c₃ C₃ O r₃) (fun _ _ _ e => e) (.inr ⟨hlen, hlt, rfl⟩) hI C.off hr⟩⟩
        · have gz : (s.setGen gM .running).gens.size = s.gens.size := gsz
          refine ⟨c', h', tk', _, 4 * n' + 3, rfl, bare_set (bare1.push hv.1) hb', hk, B', .inr ⟨y, _, rfl, hy, .two (gV := (s.setGen gM .running).gens.size) ?_ (fun val' s₃ c₃ C₃ O r₃ => hk' val' s₃ c₃ C₃ O r₃) (fun _ _ _ e => e) (.inr ⟨hlen, hlt, rfl⟩) hI C.off (by omega) ?_ hy hz hns hL2 hB hI2 hIl hv⟩⟩
          · show ((s.gens.setIfInBounds gM .running).push gs2 |>.setIfInBounds gM gs')[gM]? = some gs'
            rw [Array.getElem?_setIfInBounds_self, Array.size_push, gsz, if_pos (by omega)]
          · show ((s.gens.setIfInBounds gM .running).push gs2 |>.setIfInBounds gM gs')[(s.setGen gM .running).gens.size]? = some gs2
            rw [Array.getElem?_setIfInBounds_ne (by omega)]
            exact Array.getElem?_push_size ..
theorem SB.cur (B : SB sh gi l Ls D L st za zo c s.heap m) {I : Nat} (hI : c.get? I = none) : Cur gi D I c s.heap := ⟨B.gg, B.gh, B.low, hI, let ⟨_, e⟩ := B.lst; ⟨_, e⟩⟩
theorem turn_send {k : Nat} (G : Gd w mg mb gi) (S : SF sh gi l Ls D L) (ok : OkTabs τu τv) (hy : IsGenr gi y0 (.ref z0)) (hz : IsG gi z0 gM) (hA : A.handled = none) (hroom : Rm 10 A) (hLs : fr l Ls → False)
    (B : SB sh gi l Ls D L st za zo c s.heap m) (hb : AllBare s.gens) (P : Phase w mg mb A.in1 gi D L gM y0 τu τv k st za zo s.heap c s.gens) (hk : 0 < k) :
    ∃ (pre : List Value) (y z gX : Nat), st = pre ++ [.ref y] ∧ IsGenr c y (.ref z) ∧ IsG c z gX ∧
      wpAny (model P0 w) A (call (.builtin "generator.send") [.ref z, za]) (fun v s' => After w mg mb A.in1 sh gi l Ls D L gM y0 τu τv k st za zo m s v s') (fun e s' => Raised w mg mb A.in1 sh gi l Ls D L gM y0 τu τv k pre st za zo c m s e s') s := by
  have Gc := G.up B.gg
  have lim := (Gc.up B.gh).lim
  have hdp := hroom.depth
  have gsz : ∀ j, (s.gens.setIfInBounds j .running).size = s.gens.size := fun j => Array.size_setIfInBounds ..
  have getlt : ∀ {j : Nat} {x : GenState}, s.gens[j]? = some x → j < s.gens.size := fun e => (Array.getElem?_eq_some_iff.mp e).1
  cases P with
  | @start _ _ _ gs mM _ hg hM hns sub =>
    refine ⟨[], y0, z0, gM, rfl, hy.up B.gg, hz.up B.gg, ?_⟩
    have hI : D < s.heap.objs.size + 1 := Nat.lt_succ_of_lt B.ltD
    have s3 := S.lD
    have s2 := S.lS
    have s1 := S.lL
    have hGo := hM.2 A.in1 (s.setGen gM .running) gi D G (Sub.refl _) (B.gg.trans B.gh) hroom.in1 hA hns S.oL (by omega) (let ⟨_, e⟩ := B.lst; ⟨_, e⟩)
    refine send_spec hA lim hdp (hz.up (B.gg.trans B.gh)).isGen hg hGo (fun r s₁ hR => ?_) (fun v s₁ gs' hb' hY => ?_)
    · obtain ⟨rfl, ⟨hn, _⟩, _⟩ := hR
      omega
    · exact afterY S B hb (getlt hg) hI hY hb' (by omega)
  | @one _ _ _ gs I hy' n r _ hg hc hO hr hI hoI hres =>
    refine ⟨[], y0, z0, gM, rfl, hy.up B.gg, hz.up B.gg, ?_⟩
    have hGo := hc za (s.setGen gM .running) c (B.cur hoI) hO hres
    refine send_spec hA lim hdp (hz.up (B.gg.trans B.gh)).isGen hg hGo (fun r1 s₁ hR => ?_) (fun v s₁ gs' hb' hY => ?_)
    · obtain ⟨rfl, ⟨hn, hst⟩, h', tk', rfl, hh⟩ := hR
      refine ⟨rfl, fun h'' e hE => ?_⟩
      have B' : SB sh gi l Ls D L [.ref y0] za za c h' m := B.wake S B.gg (fun a o ea => hh a o (fun q => ?_) (fun q => ?_) (B.gh a o ea)) B.low (fun a o h1 h2 e1 => hh a o h2 (by omega) e1)
      · refine ⟨h', h'', tk', _, 0, e, rfl, rfl, hE, bare_set (bare_set hb rfl) rfl, hk, B', .over ?_⟩
        rcases hr with rfl | ⟨he, hlt, rfl⟩
        · exact hres
        · rcases hst with hst | hst
          · exact absurd he hst
          · rw [fin_none hst (by omega)]
            rw [hst] at hres; exact hres
      · have s3 := S.lD
        have s2 := S.lS
        have s1 := S.lL
        have := B.off (a := L) (by omega) S.oL
        rw [q, this] at ea; cases ea
      · rw [q, hoI] at ea; cases ea
    · cases n with
      | zero =>
        exfalso
        obtain ⟨c', h', tk', C, hh, rest⟩ := hY
        by_cases hne : τu.length ≠ τv.length
        · rw [if_pos hne] at rest
          exact rest.2.2 .none s
        · rw [if_neg hne] at rest
          rw [show τu[τu.length - (0 - 1)]? = none by simp] at rest
          exact rest.2.2 .none s
      | succ n' => exact afterY S B hb (getlt hg) hI hY hb' (by omega)
  | @two _ _ _ gs I hy' n r _ y1 z1 gV gsV L2 m2 hg hc hO hr hI hoI hne hgV hy1 hz1 hns2 hoL2 hDL2 hL2I hIl hv =>
    refine ⟨[.ref y0], y1, z1, gV, rfl, hy1, hz1, ?_⟩
    have hGo := hv.2 A.in1 (s.setGen gV .running) c Gc (Sub.refl _) B.gh (hroom.in1.le (by omega)) hns2 hoL2
    refine send_spec hA lim hdp (hz1.up B.gh).isGen hgV hGo (fun r1 s₁ hR => ?_) (fun v s₁ gs' hb' hY => ?_)
    · obtain ⟨rfl, hn, _⟩ := hR
      cases hn
    · obtain ⟨_, g', h', tk', rfl, hx, hres, hk'⟩ := hY
      have hDs := B.ltD
      have s3 := S.lD
      have s2 := S.lS
      have s1 := S.lL
      have B' := B.wake S (B.gg.trans hx.gg) hx.gh (fun a ha => (hx.new a (Nat.lt_of_le_of_lt ha hDs)).trans (B.low a ha)) (fun a o h1 h2 e1 => hx.hh a o (fun q => by have q' : @Eq Nat a L2 := q; omega) e1)
      obtain ⟨oI, eI⟩ := hIl
      refine ⟨g', h', tk', _, 4 * n + 2, rfl, bare_set (bare_set hb rfl) hb', by omega, B', .inl ⟨_, hres, .three (gV := gV) (gsV := gs') ?_ hc (fun a o ha e1 => hx.hh a o (fun q => ?_) (hO a o ha e1)) hr hI ((hx.new I (Heap.lt_size eI)).trans hoI) hres hne ?_ (hy1.up hx.gg) (hz1.up hx.gg) (fun x s₃ => ?_)⟩⟩
      · show ((s.gens.setIfInBounds gV .running).setIfInBounds gV gs')[gM]? = some gs
        rw [Array.getElem?_setIfInBounds_ne hne, Array.getElem?_setIfInBounds_ne hne]; exact hg
      · have q' : @Eq Nat a L2 := q
        have ha' : @Eq Nat a L ∨ @Eq Nat a I := ha
        rcases ha' with h1 | h1
        · omega
        · exact hL2I (q'.symm.trans h1)
      · show ((s.gens.setIfInBounds gV .running).setIfInBounds gV gs')[gV]? = some gs'
        rw [Array.getElem?_setIfInBounds_self, gsz, if_pos (getlt hgV)]
      · exact ⟨_, hk' x s₃, fun v s₂ hY2 => hY2.2.choose_spec.choose_spec.choose_spec.2.2.2 .none s₃⟩
  | @three _ _ _ gs I hy' n r _ y1 z1 gV gsV hg hc hO hr hI hoI hres hne hgV hy1 hz1 hgo =>
    refine ⟨[.ref y0], y1, z1, gV, rfl, hy1, hz1, ?_⟩
    obtain ⟨Y, hGo, hnY⟩ := hgo za (s.setGen gV .running)
    refine send_spec hA lim hdp (hz1.up B.gh).isGen hgV hGo (fun r1 s₁ hR => ?_) (fun v s₁ gs' hb' hY => ?_)
    · obtain ⟨rfl, _, rfl⟩ := hR
      refine ⟨rfl, fun h'' e hE => ?_⟩
      refine ⟨s.heap, h'', _, _, 4 * n + 1, e, rfl, rfl, hE, bare_set (bare_set hb rfl) rfl, by omega, B, .one ?_ hc hO hr hI hoI hres⟩
      show ((s.gens.setIfInBounds gV .running).setIfInBounds gV .finished)[gM]? = some gs
      rw [Array.getElem?_setIfInBounds_ne hne, Array.getElem?_setIfInBounds_ne hne]; exact hg
    · exact absurd hY (hnY v s₁)
  | over _ => exact absurd hk (Nat.lt_irrefl _)
end
end Mine
end
section
open PySem PySem.W PySem.Calls PyProof.Rows
set_option maxRecDepth 100000
set_option maxHeartbeats 4000000
namespace Mine
/-- the entry's heap but the frames and one place more -/
structure ExtF (l : List Env) (L : Nat) (g h g' h' : Heap) : Prop where
  gg : Sub g g'
  gh : Sub g' h'
  hh : ∀ (a : Nat) o, ¬ fr l a → a ≠ L → h.get? a = some o → h'.get? a = some o
  up : ∀ (a : Nat) o, fr l a → h.get? a = some o → (∀ vs, o.data ≠ .fields vs) → ∃ sl, h'.get? a = some { o with slots := sl }
  new : ∀ a : Nat, a < h.objs.size → g'.get? a = g.get? a
section
variable {w : World} {mg mb : Str → Option Value} {A : Around} {E : Value → Shared → Prop} {s : Shared} {g : Heap}
theorem rowsZ {a z : Nat} {expr : Bool} {Q : Value → Shared → Prop} (X : (hd.heap_39 w.params).In s.heap) (hv : IsGenr s.heap a (.ref z))
    (h : ∀ tk', Q (.ref z) { s with toks := tk' }) : wpAny (model P0 w) A (getAttr (.ref a) "rows" expr) Q E s := by
  obtain ⟨da, hs, tk, n, h1, h2⟩ := hv
  have I : W.InstAt s.heap a (instObj 38 da) 38 (some (dictOf [⟨hs, .str "rows" tk, .ref z⟩] n)) := ⟨h1, rfl, rfl, h2⟩
  exact get_value X I (plainGet_of (name := "rows") (by k_is)).1 (findObj_own (K := hd.heap_39 w.params) (attr := none) (by k_is) (by k_is) (by k_is) rfl) rfl (h _)
theorem isgen_yes {a : Nat} {v : Value} {Q : Value → Shared → Prop} (X : (hd.heap_39 w.params).In s.heap) (hv : IsGenr s.heap a v) (h : Q (.bool true) s) :
    wpAny (model P0 w) A (call (.builtin "isinstance") [.ref a, .ref 38]) Q E s := by
  obtain ⟨da, hs, tk, n, h1, h2⟩ := hv
  have I : W.InstAt s.heap a (instObj 38 da) 38 (some (dictOf [⟨hs, .str "rows" tk, v⟩] n)) := ⟨h1, rfl, rfl, h2⟩
  exact isi_call X (fun M => I.type) (by k_is) (by intro e; cases e) h
theorem isgen_no {v : Value} {r : Option Sig} {Q : Value → Shared → Prop} (X : (hd.heap_39 w.params).In s.heap) (hv : IsRes s.heap v r) (h : ∀ tk, Q (.bool false) { s with toks := tk }) :
    wpAny (model P0 w) A (call (.builtin "isinstance") [v, .ref 38]) Q E s := by
  cases hv with
  | no => exact isinst_no_bool X (by k_is) (by k_is) (by k_is) (h _)
  | some hD =>
    obtain ⟨⟨es, ep, e1, e2⟩, _⟩ := hD
    exact isinst_no_dict X e1 rfl (by k_is) (by k_is) (by k_is) (h _)
theorem IsGenr.det {a z z' : Nat} (h : IsGenr g a (.ref z)) (h' : IsGenr g a (.ref z')) : z = z' := by
  obtain ⟨dx, hs, tk, n, e1, e2⟩ := h
  obtain ⟨dx', hs', tk', n', e1', e2'⟩ := h'
  rw [e1] at e1'
  injection e1' with e
  injection e with _ e3
  injection e3 with e3
  subst e3
  rw [e2] at e2'
  injection e2' with e4
  injection e4 with _ _ e5
  injection e5 with e6
  have e7 := congrArg Array.toList e6
  simp at e7
  exact e7.2.2
theorem Phase.top {A1 : Around} {gi : Heap} {D L gM y0 z0 : Nat} {τu τv : Tab} {k st za zo} {h c : Heap} {gn} (p : Phase w mg mb A1 gi D L gM y0 τu τv k st za zo h c gn) (hk : 0 < k) (hy : IsGenr gi y0 (.ref z0)) (hz : IsG gi z0 gM) (sub : Sub gi c) :
    ∃ (pre : List Value) (y z gX : Nat), st = pre ++ [.ref y] ∧ pre.length ≤ 10 ∧ IsGenr c y (.ref z) ∧ IsG c z gX := by
  cases p with
  | start => exact ⟨[], y0, z0, gM, rfl, by decide, hy.up sub, hz.up sub⟩
  | one => exact ⟨[], y0, z0, gM, rfl, by decide, hy.up sub, hz.up sub⟩
  | two a b d e f g i j k' l m n o p q r => exact ⟨[.ref y0], _, _, _, rfl, by simp, k', l⟩
  | three a b d e f g i j k' l m n => exact ⟨[.ref y0], _, _, _, rfl, by simp, l, m⟩
  | over _ => exact absurd hk (Nat.lt_irrefl _)
theorem Phase.end {A1 : Around} {gi : Heap} {D L gM y0 : Nat} {τu τv : Tab} {k st za zo} {h c : Heap} {gn} (p : Phase w mg mb A1 gi D L gM y0 τu τv k st za zo h c gn) (hk : ¬ 0 < k) : st = [] ∧ IsRes c zo (fin τu τv) := by
  cases p with
  | start | one | two | three => omega
  | over a => exact ⟨rfl, a⟩
theorem stream_spec {l : List Env} {y0 z0 L gM : Nat} {gs : GenState} {mM : Str → Option Value} {τu τv : Tab} {Q : Value → Shared → Prop} (G : Gd w mg mb g) (hg : Sub g s.heap) (hroom : Rm 14 A) (hA : A.handled = none) (hfr : A.frames = some l)
    (hF : Frm s.heap l) (hoff : ∀ a, fr l a → g.get? a = none) (hy : IsGenr g y0 (.ref z0)) (hz : IsG g z0 gM) (hgM : s.gens[gM]? = some gs) (hb : AllBare s.gens) (hns : s.heap.Ns L mM) (hL : g.get? L = none) (hLf : ¬ fr l L)
    (hM : MAPG w mg mb g mM L τu τv gs) (ok : OkTabs τu τv)
    (h : ∀ g' h' tk' gn' v, ExtF l L g s.heap g' h' → AllBare gn' → IsRes g' v (fin τu τv) → Q v { s with heap := h', toks := tk', gens := gn' }) :
    wpAny (model P0 w) A (call (.ref 212) [.ref y0] []) Q E s := by
  refine wpAny_call ?_
  have X := G.k.keeps hg
  refine callZ G hg hroom.depth (binds := [("z", .ref y0), ("res_filter", .none)]) (by k_is) (by k_is) (binds_K X rfl (by k_is) rfl rfl rfl) (by decide) (locs rfl) (fun Ls h₁ F => ?_)
  dsimp only
  refine wpAny_execs_cons (wpAny_If (wpAny_isTrue_Not (isTrue_plain ?_)))
  refine Call_Name rfl (nameB G F.x.gh (by k_is) (by boot_fast) (by decide) (callWith_builtin rfl (evalArgs_plain (spliced_more (ldZ F rfl (spliced_more (nameG G F.x.gh (by k_is) (spliced_none ?_))))))))
  refine isgen_yes (G.k.keeps F.x.gh) (hy.up F.x.gh) (wpAny_truthy_bool ?_)
  simp only [Bool.not_true, Bool.false_eq_true, if_false]
  refine wpAny_execs_nil (wpAny_execs_cons (wpAny_Assign_Name (wpAny_List (spliced_none ⟨Nat.zero_le _, ?_⟩))))
  have k1 : Sub h₁ (h₁.push (listOf #[] 0)) := fun a o e => Heap.get?_push_of_some _ e
  have sz1 : (h₁.push (listOf #[] 0)).objs.size = h₁.objs.size + 1 := Heap.size_push ..
  have dD : (h₁.push (listOf #[] 0)).get? h₁.objs.size = some (listOf #[] 0) := Heap.get?_push_size _ rfl
  show wpAny _ _ (storeName _ _ (.ref h₁.objs.size)) _ _ { s with heap := h₁.push (listOf #[] 0), toks := _ }
  have F2 := F.keeps k1 (by omega)
  have hLs := F.lt
  have hs0 := F.x.sz
  generalize h₁.push (listOf #[] 0) = h₂ at *
  generalize hD : h₁.objs.size = D at *
  refine stZ F2 (fun h₃ F3 sb3 => ?_)
  dsimp only at sb3 ⊢
  have dD3 : h₃.get? D = some (listOf #[] 0) := (sb3.2 _ (neN (by omega))).trans dD
  refine wpAny_execs_cons (Assign_Tuple (wpAny_Tuple (spliced_more (wpAny_Constant_none (spliced_more (wpAny_Constant_none (spliced_none ⟨by decide, ?_⟩)))))))
  have k4 : Sub h₃ (h₃.push { cls := .type "tuple", data := .seq #[.none, .none] }) := fun a o e => Heap.get?_push_of_some _ e
  have sz4 : (h₃.push { cls := .type "tuple", data := .seq #[.none, .none] }).objs.size = h₃.objs.size + 1 := Heap.size_push ..
  have dT : (h₃.push { cls := .type "tuple", data := .seq #[.none, .none] }).get? h₃.objs.size = some { cls := .type "tuple", data := .seq #[.none, .none] } := Heap.get?_push_size _ rfl
  show wpAny _ _ (assign _ _ (.ref h₃.objs.size)) _ _ { s with heap := h₃.push { cls := .type "tuple", data := .seq #[.none, .none] }, toks := _ }
  generalize h₃.push { cls := .type "tuple", data := .seq #[.none, .none] } = h₄ at *
  refine wpAny_assign_Tuple (items := #[.none, .none]) (t := h₃.objs.size) hA ⟨_, dT, rfl, _, rfl⟩ rfl rfl (fun h₅ hx₅ => ?_)
  dsimp only at hx₅ ⊢
  have k5 : Sub h₄ h₅ := fun a o e => hx₅ a o (Nat.ne_of_lt (Heap.lt_size e)) e
  have sz5 : h₃.objs.size < h₅.objs.size := Heap.lt_size (k5 _ _ dT)
  have F5 := F3.keeps (k4.trans k5) (by omega)
  have dD5 := k5 _ _ (k4 _ _ dD3)
  show wpAny _ _ (holding [.none] (assign (.Name "z_args" _) _ .none) >>= fun _ => (holding [] (assign (.Name "z_out" _) _ .none) >>= fun _ => pure ())) _ _ _
  refine wpAny_bind (wpAny_holding (wpAny_assign_Name (stZ F5 (fun h6 F6 sb6 => ?_))))
  dsimp only at sb6
  refine wpAny_bind (wpAny_holding (wpAny_assign_Name (stZ F6 (fun h7 F7 sb7 => wpAny_pure ?_))))
  dsimp only at sb7 ⊢
  have nLD : D ≠ Ls := by omega
  have dD7 := (sb7.2 _ nLD).trans ((sb6.2 _ nLD).trans dD5)
  refine wpAny_execs_cons (wpAny_Expr_any (methodCall_KW (ldZ F7 rfl ?_)))
  dsimp only
  refine list_meth dD7 slot_list_append PySem.F.type_list_append ?_
  refine callWith_builtin rfl (evalArgs_plain (spliced_more (ldZ F7 rfl (spliced_none ?_))))
  dsimp only [List.nil_append, List.cons_append]
  refine append_at' (p := []) (n := 0) dD7 (by decide) (fun h8 sb8 dD8 => ?_)
  dsimp only at sb8 ⊢
  have gD : g.get? D = none := hg.none (by omega)
  have F8 := F7.at sb8 (by omega) gD (by omega)
  have hlt := F8.lt
  have lF : ∀ a, fr l a → a < s.heap.objs.size := by
    rintro a ⟨e, he, q⟩
    obtain ⟨_, L', o, q1, q2, _⟩ := hF e he
    rw [q] at q1
    injection q1 with q1
    rw [q1]; exact Heap.lt_size q2
  have S : SF s.heap g l Ls D L := ⟨hL, F8.off, gD, hoff, lF, hLf, hns.lt, F8.own, by omega⟩
  have B : SB s.heap g l Ls D L [.ref y0] .none .none g h8 _ := ⟨Sub.refl _, F8.x.gh, fun _ _ => rfl, F8.ns, rfl, rfl, rfl, rfl, ⟨_, dD8⟩, fun a o _ _ e => F8.x.hh a o e, fun a o _ e _ => ⟨o.slots, F8.x.hh a o e⟩⟩
  refine wpAny_execs_cons (wpAny_While ?_)
  show codeAny (model P0 w) ?A1 _ _ _
  have rmA : Rm 13 ?A1 := hroom.deeper
  refine codeAny_whileLoop (fun k s' => ∃ c h' tk' gn za zo st m', s' = { s with heap := h', toks := tk', gens := gn } ∧ SB s.heap g l Ls D L st za zo c h' m' ∧ AllBare gn ∧ Phase w mg mb (Around.in1 ?A1) g D L gM y0 τu τv k st za zo h' c gn) ?_ _
    ⟨g, h8, _, _, _, _, _, _, rfl, B, hb, .start hgM hM (hns.keeps F8.x.hh) (Sub.refl _)⟩
  rintro k s' ⟨c, h', tk', gn, za, zo, st, m', rfl, B, hbg, P⟩
  obtain ⟨nst, hst⟩ := B.lst
  have X9 := G.k.keeps (B.gg.trans B.gh)
  by_cases hk : 0 < k
  · obtain ⟨pre, y, z, gX, rfl, hpre, hy1, hz1⟩ := P.top hk hy hz B.gg
    refine isTrue_plain (ldN B.ns B.m1 (wpAny_truthy_list ⟨_, hst, rfl, _, rfl⟩ (by rw [List.size_toArray, List.length_append, List.length_singleton]; omega) ?_))
    rw [show (!(pre ++ [Value.ref y]).toArray.isEmpty) = true by simp]
    simp only [if_true]
    refine wpAny_execs_cons (wpAny_Assign_Name (Subscript_ (ldN B.ns B.m1 (UnaryOp_ (wpAny_Constant_int (neg_int ?_))))))
    refine tail_any (T := "list") ⟨_, hst, rfl⟩ slot_list_getitem.lookup (last_at hst ?_) (by with_unfolding_all rfl)
    have hS1 := S.lL
    have hS2 := S.lS
    have hS3 := S.lD
    refine stN B.ns (fun h1 hn1 sb1 => ?_)
    dsimp only at sb1 ⊢
    have B1 := B.setS S hn1 sb1 B.m1 B.m2 B.m3 B.m4
    have P1 := P.keep (h' := h1) (fun a o ha e => (sb1.2 a (by rcases ha with rfl | ha; exact Nat.ne_of_lt (by omega); exact Nat.ne_of_gt (Nat.lt_trans hS3 ha))).trans e)
    have X1 := G.k.keeps (B1.gg.trans B1.gh)
    refine wpAny_execs_cons (wpAny_Try_except (wpAny_execs_cons (wpAny_Assign_Name (methodCall_KW (Attribute_name (ldN B1.ns rfl (rowsZ X1 (hy1.up B1.gh) (fun tk1 => ?_))))))))
    refine gen_meth (hz1.up B1.gh).isGen (fun o ho => ?_) ?_
    · obtain ⟨nm, qn, e⟩ := hz1.up B1.gh
      have e' : some _ = some o := e.symm.trans ho
      injection e' with e'
      rw [← e']
    dsimp only
    refine callWith_builtin rfl (evalArgs_plain (spliced_more (ldN (x := Str.ofString "z_args") (v := za) (m := fun y_1 => if y_1 = Str.ofString "z" then some (Value.ref y) else m' y_1) B1.ns B.m3 (spliced_none ?_))))
    dsimp only [List.nil_append, List.cons_append]
    obtain ⟨pre', y', z', gX', e1, hy1', hz1', hW⟩ := turn_send (A := ?A1) (s := { s with heap := h1, toks := tk1, gens := gn }) G S ok hy hz hA (rmA.le (by omega)) (fun q => absurd (S.fS _ q) (by omega)) B1 hbg P1 hk
    obtain ⟨rfl, e2⟩ := List.append_inj' e1 rfl
    have e3 : y = y' := by injection e2 with e2; injection e2
    subst e3
    have e4 := hy1.det hy1'
    subst e4
    refine wpAny_mono hW (fun v s' hx => ?_) (fun e s' hx => ?_)
    · obtain ⟨c', h2, tk2, gn', k', rfl, hb', hlt, B2, hr⟩ := hx
      dsimp only
      refine stN B2.ns (fun h3 hn3 sb3 => ?_)
      dsimp only at sb3 ⊢
      have B3 := B2.setS (za' := za) (zo' := v) S hn3 sb3 B.m1 B.m2 B.m3 rfl
      have X3 := G.k.keeps (B3.gg.trans B3.gh)
      have kp3 : ∀ (a : Nat) o, (a = L ∨ D < a) → h2.get? a = some o → h3.get? a = some o := fun a o ha e => (sb3.2 a (by rcases ha with rfl | ha; exact Nat.ne_of_lt (by omega); exact Nat.ne_of_gt (Nat.lt_trans hS3 ha))).trans e
      refine wpAny_execs_cons (wpAny_If (isTrue_plain (ldN B3.ns B.m2 (truthy_none ?_))))
      simp only [Bool.false_eq_true, if_false]
      refine wpAny_execs_nil (wpAny_execs_cons (wpAny_If (isTrue_plain ?_)))
      refine Call_Name rfl (nameB G (B3.gg.trans B3.gh) (by k_is) (by boot_fast) (by decide) (callWith_builtin rfl (evalArgs_plain (spliced_more (ldN (x := Str.ofString "z_out") (v := v) B3.ns rfl (spliced_more (nameG G (B3.gg.trans B3.gh) (by k_is) (spliced_none ?_))))))))
      dsimp only [List.nil_append, List.cons_append]
      rcases hr with ⟨r, hres, P2⟩ | ⟨y1, z1, rfl, hgy, P2⟩
      · refine isgen_no X3 (hres.up B3.gh) (fun tk3 => wpAny_truthy_bool ?_)
        simp only [Bool.false_eq_true, if_false]
        refine wpAny_execs_cons (wpAny_Assign_Name (ldN (x := Str.ofString "z_out") (v := v) B3.ns rfl (stN B3.ns (fun h4 hn4 sb4 => ?_))))
        dsimp only at sb4 ⊢
        have B4 := B3.setS (za' := v) (zo' := v) S hn4 sb4 B.m1 B.m2 rfl rfl
        refine wpAny_execs_nil (wpAny_execs_nil ?_)
        dsimp only
        refine wpAny_execs_nil (wpAny_execs_nil ?_)
        exact ⟨k', hlt, c', h4, _, gn', v, v, _, _, rfl, B4, hb', (P2.keep kp3).keep (fun a o ha e => (sb4.2 a (by rcases ha with rfl | ha; exact Nat.ne_of_lt (by omega); exact Nat.ne_of_gt (Nat.lt_trans hS3 ha))).trans e)⟩
      · refine isgen_yes X3 (hgy.up B3.gh) (wpAny_truthy_bool ?_)
        simp only [if_true]
        obtain ⟨n3, hst3⟩ := B3.lst
        refine wpAny_execs_cons (wpAny_Expr_any (methodCall_KW (ldN (x := Str.ofString "stack") (v := .ref D) B3.ns B.m1 ?_)))
        dsimp only
        refine list_meth hst3 slot_list_append PySem.F.type_list_append ?_
        refine callWith_builtin rfl (evalArgs_plain (spliced_more (ldN (x := Str.ofString "z_out") (v := .ref y1) B3.ns rfl (spliced_none ?_))))
        dsimp only [List.nil_append, List.cons_append]
        refine append_at' hst3 (by rw [List.length_append, List.length_singleton]; omega) (fun h4 sb4 hd4 => ?_)
        dsimp only at sb4 ⊢
        have B4 := B3.setD S sb4 hd4
        refine wpAny_execs_cons (wpAny_Assign_Name (wpAny_Constant_none (stN B4.ns (fun h5 hn5 sb5 => ?_))))
        dsimp only at sb5 ⊢
        have B5 := B4.setS (za' := .none) (zo' := .ref y1) S hn5 sb5 B.m1 B.m2 rfl rfl
        refine wpAny_execs_nil (wpAny_execs_nil ?_)
        dsimp only
        refine wpAny_execs_nil (wpAny_execs_nil ?_)
        refine ⟨k', hlt, c', h5, _, gn', _, _, _, _, rfl, B5, hb', ((P2.keep kp3).keep (h' := h4) (fun a o ha e => (sb4.2 a ?_).trans e)).keep (fun a o ha e => (sb5.2 a (by rcases ha with rfl | ha; exact Nat.ne_of_lt (by omega); exact Nat.ne_of_gt (Nat.lt_trans hS3 ha))).trans e)⟩
        rcases ha with rfl | ha
        · exact Nat.ne_of_lt (by omega)
        · exact Nat.ne_of_gt ha
    · obtain ⟨h0, h2, tk2, gn', k', e', rfl, rfl, hE, hb', hlt, B2, P2⟩ := hx
      have nfr : ∀ a : Nat, ∀ env : Env, env.frame = some Ls → fr (env :: l) a → a = Ls ∨ fr l a := by
        rintro a env hf ⟨e, he, q⟩
        rcases List.mem_cons.mp he with rfl | he
        · rw [hf] at q; injection q with q; exact .inl q.symm
        · exact .inr ⟨e, he, q⟩
      refine catch_spec (h := h0) G (B2.gg.trans B2.gh) (Around.frames_deeper hfr) rfl ?_ (fun a ha => ?_) hE rfl rfl rfl rfl (fun h3 k1 k2 => ?_)
      · intro env he
        rcases List.mem_cons.mp he with rfl | he
        · obtain ⟨o, es, ep, ho, hd, _⟩ := B2.ns
          exact ⟨(by intro q; have q' : ScopeKind.function = ScopeKind.module := q; cases q'), Ls, o, rfl, ho, fun vs q => by rw [hd] at q; cases q⟩
        · obtain ⟨e1, L', o, e2, e3, e4⟩ := hF env he
          obtain ⟨sl, e5⟩ := B2.up L' o ⟨env, he, e2⟩ e3 e4
          exact ⟨e1, L', _, e2, e5, e4⟩
      · rcases nfr a _ rfl ha with rfl | ha
        · exact S.oS
        · exact hoff a ha
      · have B3 := B2.noted S rfl k1 k2
        have P3 := P2.keep (h' := h3) (fun a o ha e => k1 a o (fun q => ?_) e)
        · obtain ⟨n3, hst3⟩ := B3.lst
          dsimp only
          refine wpAny_execs_cons (wpAny_Assign_Name (methodCall_KW (ldN B3.ns B.m1 ?_)))
          dsimp only
          refine list_meth hst3 PySem.F.slot_list_pop PySem.F.type_list_pop ?_
          refine callWith_builtin rfl (evalArgs_nil3 ?_)
          dsimp only [List.nil_append, List.cons_append]
          refine pop_at hst3 (by rw [sizeLine_eq]; omega) (fun h4 sb4 hd4 => ?_)
          dsimp only at sb4 ⊢
          have B4 := B3.setD S sb4 hd4
          refine stN B4.ns (fun h5 hn5 sb5 => ?_)
          dsimp only at sb5 ⊢
          have B5 := B4.setS (za' := za) (zo' := zo) S hn5 sb5 B.m1 B.m2 B.m3 B.m4
          refine wpAny_execs_nil ?_
          dsimp only
          refine wpAny_execs_nil ?_
          refine ⟨k', hlt, c, h5, _, gn', za, zo, _, _, rfl, B5, hb', ((P3.keep (h' := h4) (fun a o ha e => (sb4.2 a ?_).trans e)).keep (fun a o ha e => (sb5.2 a (by rcases ha with rfl | ha; exact Nat.ne_of_lt (by omega); exact Nat.ne_of_gt (Nat.lt_trans hS3 ha))).trans e))⟩
          rcases ha with rfl | ha
          · exact Nat.ne_of_lt (by omega)
          · exact Nat.ne_of_gt ha
        · rcases nfr a _ rfl q with q | q
          · have q' : @Eq Nat a Ls := q
            rcases ha with ha | ha
            · have ha' : @Eq Nat a L := ha
              omega
            · omega
          · rcases ha with ha | ha
            · exact S.fL (ha ▸ q)
            · have := S.fS a q
              omega
  · obtain ⟨rfl, hres⟩ := P.end hk
    refine isTrue_plain (ldN B.ns B.m1 (wpAny_truthy_list ⟨_, hst, rfl, _, rfl⟩ (by decide) ?_))
    rw [show (!([] : List Value).toArray.isEmpty) = false by simp]
    simp only [Bool.false_eq_true, if_false]
    refine wpAny_execs_nil ?_
    dsimp only
    refine wpAny_execs_cons (wpAny_Return_some (ldN B.ns B.m4 ?_))
    dsimp only
    exact h c h' _ gn zo ⟨B.gg, B.gh, B.keep, B.up, fun a ha => B.low a (by omega)⟩ hbg hres
end
end Mine
end
section
open PySem PySem.W PySem.Calls PyProof.Rows
set_option maxRecDepth 100000
set_option maxHeartbeats 4000000
namespace Mine
/-- the entry's heap but the frames -/
structure ExtN (l : List Env) (g h g' h' : Heap) : Prop where
  gg : Sub g g'
  gh : Sub g' h'
  hh : ∀ (a : Nat) o, ¬ fr l a → h.get? a = some o → h'.get? a = some o
  up : ∀ (a : Nat) o, fr l a → h.get? a = some o → (∀ vs, o.data ≠ .fields vs) → ∃ sl, h'.get? a = some { o with slots := sl }
  new : ∀ a : Nat, a < h.objs.size → g'.get? a = g.get? a
theorem fr_cons {env : Env} {l : List Env} {Ls : Nat} (hf : env.frame = some Ls) {a : Nat} (h : fr (env :: l) a) : a = Ls ∨ fr l a := by
  obtain ⟨e, he, q⟩ := h
  rcases List.mem_cons.mp he with rfl | he
  · rw [hf] at q; injection q with q; exact .inl q.symm
  · exact .inr ⟨e, he, q⟩
theorem Frm.lt {h : Heap} {l : List Env} (x : Frm h l) {a : Nat} (ha : fr l a) : a < h.objs.size := by
  obtain ⟨e, he, q⟩ := ha
  obtain ⟨_, L', o, q1, q2, _⟩ := x e he
  rw [q] at q1
  injection q1 with q1
  rw [q1]; exact Heap.lt_size q2
theorem Frm.cons {g h g1 h1 : Heap} {env : Env} {l : List Env} {Lc : Nat} {m} (F : Fz g h g1 h1 Lc m) (x : Frm h l) (hf : env.frame = some Lc) (hk : env.scope.kind ≠ .module) : Frm h1 (env :: l) := by
  intro e he
  rcases List.mem_cons.mp he with rfl | he
  · obtain ⟨o, es, ep, ho, hd, _⟩ := F.ns
    exact ⟨hk, Lc, o, hf, ho, fun vs q => by rw [hd] at q; cases q⟩
  · obtain ⟨e1, L', o, e2, e3, e4⟩ := x e he
    exact ⟨e1, L', o, e2, F.x.hh _ _ e3, e4⟩
theorem off_cons {g h g1 h1 : Heap} {env : Env} {l : List Env} {Lc : Nat} {m} (F : Fz g h g1 h1 Lc m) (x : Frm h l) (hf : env.frame = some Lc) (hoff : ∀ a, fr l a → g.get? a = none) : ∀ a, fr (env :: l) a → g1.get? a = none := by
  intro a ha
  rcases fr_cons hf ha with rfl | ha
  · exact F.off
  · exact (F.x.new a (x.lt ha)).trans (hoff a ha)
theorem ExtF.peel {g h g1 h1 g' h' : Heap} {env : Env} {l : List Env} {Lc L : Nat} {m} (F : Fz g h g1 h1 Lc m) (x : ExtF (env :: l) L g1 h1 g' h') (hf : env.frame = some Lc) (hL : h.objs.size ≤ L) : ExtN l g h g' h' := by
  have ow := F.own
  refine ⟨F.x.gg.trans x.gg, x.gh, fun a o h1 e => ?_, fun a o h1 e h3 => x.up a o (let ⟨e, he, q⟩ := h1; ⟨e, List.mem_cons_of_mem _ he, q⟩) (F.x.hh a o e) h3, fun a ha => (x.new a (Nat.lt_of_lt_of_le ha F.x.sz)).trans (F.x.new a ha)⟩
  have lt : @LT.lt Nat _ a h.objs.size := Heap.lt_size e
  exact x.hh a o (fun q => (fr_cons hf q).elim (fun q => by omega) h1) (by omega) (F.x.hh a o e)
theorem ExtN.peel {g h g1 h1 g' h' : Heap} {env : Env} {l : List Env} {Lc : Nat} {m} (F : Fz g h g1 h1 Lc m) (x : ExtN (env :: l) g1 h1 g' h') (hf : env.frame = some Lc) : ExtN l g h g' h' := by
  have ow := F.own
  refine ⟨F.x.gg.trans x.gg, x.gh, fun a o h1 e => ?_, fun a o h1 e h3 => x.up a o (let ⟨e, he, q⟩ := h1; ⟨e, List.mem_cons_of_mem _ he, q⟩) (F.x.hh a o e) h3, fun a ha => (x.new a (Nat.lt_of_lt_of_le ha F.x.sz)).trans (F.x.new a ha)⟩
  have lt : @LT.lt Nat _ a h.objs.size := Heap.lt_size e
  exact x.hh a o (fun q => (fr_cons hf q).elim (fun q => by omega) h1) (F.x.hh a o e)
section
variable {w : World} {mg mb : Str → Option Value} {A : Around} {E : Value → Shared → Prop} {s : Shared} {g : Heap}
theorem unify_spec {l : List Env} {du dv d0 : Nat} {τu τv : Tab} {Q : Value → Shared → Prop} (G : Gd w mg mb g) (hg : Sub g s.heap) (hroom : Rm 16 A) (hA : A.handled = none) (hfr : A.frames = some l)
    (hF : Frm s.heap l) (hoff : ∀ a, fr l a → g.get? a = none) (hb : AllBare s.gens) (hU : IsTab w g du τu) (hV : IsTab w g dv τv) (hne : du ≠ dv) (hD : IsSub g d0 []) (ok : OkTabs τu τv)
    (h : ∀ g' h' tk' gn' v, ExtN l g s.heap g' h' → AllBare gn' → IsRes g' v (fin τu τv) → Q v { s with heap := h', toks := tk', gens := gn' }) :
    wpAny (model P0 w) A (call (.ref 247) [.ref du, .ref dv, .ref d0] []) Q E s := by
  refine wpAny_call ?_
  refine callZ G hg hroom.depth (binds := [("u", .ref du), ("v", .ref dv), ("s", .ref d0)]) (by k_is) (by k_is) (BindsTo.of_eq rfl) (by decide) (locs rfl) (fun Lu h₁ F => ?_)
  dsimp only
  obtain ⟨ou, hou, hcu⟩ := hU.obj
  obtain ⟨ov, hov, hcv⟩ := hV.obj
  refine wpAny_execs_cons (wpAny_If (wpAny_isTrue_Compare1 (ldZ F rfl (ldZ F rfl (wpAny_is_ref_other hne (F.x.gh _ _ hou) (F.x.gh _ _ hov) (by rw [hcu]; decide) (wpAny_truthy_bool ?_))))))
  simp only [Bool.false_eq_true, if_false]
  refine wpAny_execs_nil (wpAny_execs_cons (wpAny_Return_some ?_))
  refine Call_Name rfl (nameG G F.x.gh (by k_is) (callWith_K G.k (by k_is) (spliced_more ?_)))
  refine Call_Name rfl (nameG G F.x.gh (by k_is) (callWith_K G.k (by k_is) (spliced_more (ldZ F rfl (spliced_more (ldZ F rfl (spliced_more (ldZ F rfl (spliced_none ?_)))))))))
  refine ⟨G.k.keeps F.x.gh, ?_⟩
  dsimp only [List.nil_append, List.cons_append]
  refine unifyT_spec G F.x.gh (Rm.le hroom.deeper (by omega)) hU hV hD ok (fun L z y g4 h4 tk4 gs m4 x4 hy hz hn hL hlt hvo => spliced_none ?_)
  have F4 := F.ext x4
  have G4 := G.up F4.x.gg
  refine ⟨G4.k.keeps F4.x.gh, ?_⟩
  dsimp only [List.nil_append, List.cons_append]
  have hsz := F.x.sz
  have hLu := F.lt
  refine stream_spec G4 F4.x.gh (Rm.le hroom.deeper (by omega)) hA (Around.frames_deeper hfr) (Frm.cons F4 hF rfl (by intro q; have q' : ScopeKind.function = ScopeKind.module := q; cases q')) (off_cons F4 hF rfl hoff) hy hz ?_ (hb.push hvo.1) hn hL (fun q => ?_) hvo ok (fun g' h' tk' gn' v x hb' hr => ?_)
  · exact Array.getElem?_push_size ..
  · have hlt' : h₁.objs.size ≤ L := hlt
    rcases fr_cons rfl q with q | q
    · omega
    · have := hF.lt q
      omega
  · exact h g' h' tk' gn' v (x.peel F4 rfl (Nat.le_trans hsz hlt)) hb' hr
theorem nomap_spec {l : List Env} {du dv : Nat} {τu τv : Tab} {Q : Value → Shared → Prop} (G : Gd w mg mb g) (hg : Sub g s.heap) (hroom : Rm 17 A) (hA : A.handled = none) (hfr : A.frames = some l)
    (hF : Frm s.heap l) (hoff : ∀ a, fr l a → g.get? a = none) (hb : AllBare s.gens) (hU : IsTab w g du τu) (hV : IsTab w g dv τv) (hne : du ≠ dv) (ok : OkTabs τu τv)
    (h : ∀ g' h' tk' gn' v, ExtN l g s.heap g' h' → AllBare gn' → IsRes g' v (fin τu τv) → Q v { s with heap := h', toks := tk', gens := gn' }) :
    wpAny (model P0 w) A (call (.ref 254) [.ref du, .ref dv] []) Q E s := by
  refine wpAny_call ?_
  refine callZ G hg hroom.depth (binds := [("u", .ref du), ("v", .ref dv)]) (by k_is) (by k_is) (BindsTo.of_eq rfl) (by decide) (locs rfl) (fun Ln h₁ F => ?_)
  dsimp only
  refine wpAny_execs_cons (wpAny_Return_some ?_)
  refine Call_Name rfl (nameG G F.x.gh (by k_is) (callWith_K G.k (by k_is) (spliced_more (ldZ F rfl (spliced_more (ldZ F rfl (spliced_more ?_)))))))
  rw [eval_Dict_empty]
  refine wpAny_bind (wpAny_standAt ?_)
  refine wpAny_newObj_type ?_ (by size_fits)
  refine spliced_none ?_
  have k1 : Sub h₁ (h₁.push (dictOf [] 0)) := fun a o e => Heap.get?_push_of_some _ e
  have sz1 : (h₁.push (dictOf [] 0)).objs.size = h₁.objs.size + 1 := Heap.size_push ..
  have dD : (h₁.push (dictOf [] 0)).get? h₁.objs.size = some (dictOf [] 0) := Heap.get?_push_size _ rfl
  have F2 := F.keeps k1 (by omega)
  have hLn := F.lt
  have hs0 := F.x.sz
  have hbig := G.big F.x.gh
  dsimp only
  show _ ∧ wpAny _ _ (call _ [.ref du, .ref dv, .ref h₁.objs.size] _) _ _ { s with heap := h₁.push (dictOf [] 0), toks := _ }
  generalize h₁.push (dictOf [] 0) = h₂ at *
  generalize hD : h₁.objs.size = D at *
  obtain ⟨g', F3, sub, yes, no⟩ := F2.freeze (fun a => a = D) (fun a ha => by rw [ha]; omega) (fun q => by have q' : @Eq Nat Ln _ := q; omega)
  have G3 := G.up sub
  have hS : IsSub g' D [] := ⟨⟨[], 0, (yes _ rfl).trans dD, .nil⟩, List.nodup_nil, (fun x hx => by cases hx), hbig⟩
  refine ⟨G3.k.keeps F3.x.gh, ?_⟩
  refine unify_spec G3 F3.x.gh (Rm.le hroom.deeper (by omega)) hA (Around.frames_deeper hfr) (Frm.cons F3 hF rfl (by intro q; have q' : ScopeKind.function = ScopeKind.module := q; cases q')) (off_cons F3 hF rfl hoff) hb (hU.up sub) (hV.up sub) hne hS ok (fun g5 h5 tk5 gn5 v x hb' hr => ?_)
  exact h g5 h5 tk5 gn5 v (x.peel F3 rfl) hb' hr
end
end Mine
end
section
open PySem PySem.W PySem.Calls PyProof.Rows
set_option maxRecDepth 100000
set_option maxHeartbeats 4000000
namespace Mine
/-- a frame with cells -/
structure LF (g₀ h₀ g h : Heap) (L : Nat) (m : Str → Option Value) (cl : List (Str × Addr)) (cm : Str → Option Value) : Prop where
  F : Fz g₀ h₀ g h L m
  cell : ∀ n c, cl.lookup n = some c → h.IsCell c (cm n)
  coff : ∀ n (c : Nat), cl.lookup n = some c → g.get? c = none ∧ L < c
  apart : cl.Pairwise fun x y => x.2 ≠ y.2
section
variable {g₀ h₀ g h g' h' : Heap} {L : Nat} {m m' : Str → Option Value} {cl : List (Str × Addr)} {cm : Str → Option Value}
theorem LF.ext (X : LF g₀ h₀ g h L m cl cm) (x : Ext g h g' h') : LF g₀ h₀ g' h' L m cl cm :=
  ⟨X.F.ext x, fun n c e => (X.cell n c e).keeps x.hh, fun n c e => ⟨(x.new c (X.cell n c e).lt).trans (X.coff n c e).1, (X.coff n c e).2⟩, X.apart⟩
theorem LF.keeps (X : LF g₀ h₀ g h L m cl cm) (x : Sub h h') (sz : h.objs.size ≤ h'.objs.size) : LF g₀ h₀ g h' L m cl cm :=
  ⟨X.F.keeps x sz, fun n c e => (X.cell n c e).keeps x, X.coff, X.apart⟩
theorem LF.set (X : LF g₀ h₀ g h L m cl cm) (F' : Fz g₀ h₀ g h' L m') (hs : Heap.SameBut L h h') : LF g₀ h₀ g h' L m' cl cm :=
  ⟨F', fun n c e => (X.cell n c e).sameBut hs (Nat.ne_of_gt (X.coff n c e).2), X.coff, X.apart⟩
theorem LF.setC (X : LF g₀ h₀ g h L m cl cm) {n : Str} {c : Addr} {v : Value} (hc : cl.lookup n = some c) (hv : h'.IsCell c (some v)) (hs : Heap.SameBut c h h') : LF g₀ h₀ g h' L m cl (fun y => if y = n then some v else cm y) := by
  have h2 := X.coff n c hc
  refine ⟨X.F.at hs (Nat.le_of_lt (Nat.lt_of_le_of_lt X.F.own h2.2)) h2.1 (Nat.ne_of_lt h2.2), fun k c' hk => ?_, X.coff, X.apart⟩
  by_cases hkn : k = n
  · subst hkn
    rw [hc] at hk; cases hk
    simpa using hv
  · rw [if_neg hkn]
    exact (X.cell k c' hk).sameBut hs fun e => hkn (name_of_addr X.apart (mem_of_lookup hk) (e ▸ mem_of_lookup hc))
/-- a change at one new place of the frame's own, that is no cell -/
theorem LF.at (X : LF g₀ h₀ g h L m cl cm) {D : Nat} (hs : Heap.SameBut D h h') (hD : h₀.objs.size ≤ D) (hn : g.get? D = none) (hL : L ≠ D) (hc : ∀ n, cl.lookup n ≠ some D) : LF g₀ h₀ g h' L m cl cm :=
  ⟨X.F.at hs hD hn hL, fun n c e => (X.cell n c e).sameBut hs (fun q => hc n (q ▸ e)), X.coff, X.apart⟩
theorem LF.freeze (X : LF g₀ h₀ g h L m cl cm) (p : Addr → Prop) (hp : ∀ a : Nat, p a → h₀.objs.size ≤ a) (hL : ¬ p L) (hc : ∀ n c, cl.lookup n = some c → ¬ p c) :
    ∃ g', LF g₀ h₀ g' h L m cl cm ∧ Sub g g' ∧ (∀ a, p a → g'.get? a = h.get? a) ∧ (∀ a, ¬ p a → g'.get? a = g.get? a) := by
  obtain ⟨g', F', a, b, c⟩ := X.F.freeze p hp hL
  exact ⟨g', ⟨F', X.cell, fun n d e => ⟨(c d (hc n d e)).trans (X.coff n d e).1, (X.coff n d e).2⟩, X.apart⟩, a, b, c⟩
theorem LF.noted {env : Env} (X : LF g₀ h₀ g h L m cl cm) (hf : env.frame = some L) (x : ExtN [env] g h g' h') : LF g₀ h₀ g' h' L m cl cm := by
  have hfr : ∀ a : Nat, fr [env] a → a = L := fun a ha => (fr_cons hf ha).elim id fun ⟨e, he, _⟩ => by cases he
  obtain ⟨o, es, ep, ho, hd, r⟩ := X.F.ns
  obtain ⟨sl, hsl⟩ := x.up L o ⟨env, List.mem_cons_self, hf⟩ ho (fun vs q => by rw [hd] at q; cases q)
  have lt' : L < h'.objs.size := Heap.lt_size hsl
  have ow := X.F.own
  refine ⟨⟨⟨X.F.x.gg.trans x.gg, x.gh, fun a o e => ?_, fun a ha => (x.new a (Nat.lt_of_lt_of_le ha X.F.x.sz)).trans (X.F.x.new a ha), by omega⟩, ⟨_, es, ep, hsl, hd, r⟩, ow, (x.new L X.F.lt).trans X.F.off⟩, fun n c e => ?_, fun n c e => ⟨(x.new c (X.cell n c e).lt).trans (X.coff n c e).1, (X.coff n c e).2⟩, X.apart⟩
  · refine x.hh a o (fun q => ?_) (X.F.x.hh a o e)
    have := hfr a q
    have lt : @LT.lt Nat _ a h₀.objs.size := Heap.lt_size e
    omega
  · obtain ⟨oc, hoc, hdc⟩ := X.cell n c e
    exact ⟨oc, x.hh c oc (fun q => Nat.ne_of_gt (X.coff n c e).2 (hfr c q)) hoc, hdc⟩
end
section
variable {w : World} {mg mb : Str → Option Value} {A : Around} {E : Value → Shared → Prop} {s : Shared} {g₀ h₀ g : Heap} {L : Nat} {m cm : Str → Option Value} {cl : List (Str × Addr)} {env : Env} {x : Str} {pos : Pos} {v : Value}
theorem ldC {c : Addr} {Q : Value → Shared → Prop} (hc : s.heap.IsCell c (some v)) (hl' : env.cells.lookup x = some c) (h : Q v s)
    (hk : env.scope.kind = .function := by rfl) (hl : env.kindOf x = some .cell := by rfl) (hd : (x == ("__debug__" : Str)) = false := by decide) :
    wpAny (model P0 w) A (eval (.Name x pos) env) Q E s := wpAny_Name (wpAny_loadName_cell hk hl hl' hc h) hd
theorem stC {c : Addr} {Q : Unit → Shared → Prop} (X : LF g₀ h₀ g s.heap L m cl cm) (hc : cl.lookup x = some c)
    (h : ∀ h', LF g₀ h₀ g h' L m cl (fun y => if y = x then some v else cm y) → Q () { s with heap := h' })
    (hcl : env.cells = cl := by rfl) (hk : env.scope.kind = .function := by rfl) (hl : env.kindOf x = some .cell := by rfl) :
    wpAny (model P0 w) A (storeName env x v) Q E s := by
  subst hcl
  exact wpAny_storeName_cell hk hl hc (X.cell x c hc) fun h' hv hs => h h' (X.setC hc hv hs)
/-- a call of a def with cells -/
theorem callC {R : Result → Shared → Prop} {f : Addr} {oc : Value} {od : Option Addr} {osl : Array (Option Value)} {name qual : Str} {params : Arguments} {body : List Stmt} {scope : Scope} {dV kV doc pm cdv ct : Value} {an : Option Addr} {args : Args} {binds : List (Str × Value)}
    (G : Gd w mg mb g) (hg : Sub g s.heap) (hroom : A.depth < recursionLimit)
    (ho : (hd.heap_39 w.params).lookup f = some ⟨oc, od, .func (fnX name qual params body scope [] dV kV doc pm an cdv ct), osl⟩) (hcd : codeIn (hd.heap_39 w.params) cdv qual = true)
    (hbind : BindsTo s (fnX name qual params body scope [] dV kV doc pm an cdv ct) args binds)
    (hkind : ∀ n, ∀ x ∈ binds, scope.names.lookup x.1 = some .local ∨ (scope.names.lookup x.1 = some .cell ∧ ((cellsFrom n scope.names []).lookup x.1).isSome = true))
    (h : ∀ (L : Nat) h₁ tk, LF g s.heap g h₁ L (bindL (envX qual scope L f cdv (cellsFrom (L + 1) scope.names [])).kindOf binds fun _ => none) (cellsFrom (L + 1) scope.names []) (bindC (envX qual scope L f cdv (cellsFrom (L + 1) scope.names [])).kindOf binds fun _ => none) →
      wpAny (model P0 w) (A.deeper (envX qual scope L f cdv (cellsFrom (L + 1) scope.names []))) (execs body (envX qual scope L f cdv (cellsFrom (L + 1) scope.names []))) (fun fl s' => R (.ok (.ret (match fl with | .ret v => v | _ => .none))) s') (fun _ _ => False)
        { s with heap := h₁, toks := tk })
    (hco : scope.isCoroutine = false := by rfl) (hgen : scope.isGenerator = false := by rfl) (hk : scope.kind = .function := by rfl) :
    codeAny (model P0 w) A (.call (.ref f) args) R s := by
  have G' := G.up hg
  refine codeAny_call_function hroom (G'.k _ _ ho) rfl hco hgen rfl (codeRec_of G'.k hcd) (hbind _ _ _ _ ?_)
  refine wpAny_newFunctionEnv_cells hk (hkind _) fun env' he s' x => ?_
  subst he
  obtain ⟨h₁, tk, rfl⟩ := x.toInCall.same
  have fresh := x.toInCall.fresh
  have keep : Sub s.heap h₁ := fun a o e => x.toInCall.keep a o e
  have lt := x.toInCall.ns.lt
  refine ⟨G'.lim.keeps keep, codeAny_func ?_⟩
  refine wpAny_mono (h s.heap.objs.size h₁ tk ⟨⟨⟨Sub.refl _, hg.trans keep, keep, fun _ _ => rfl, Nat.le_of_lt lt⟩, x.toInCall.ns, Nat.le_refl _, hg.none (Nat.le_refl _)⟩, x.cell, fun n c e => ?_, x.apart⟩) (fun _ _ y => y) (fun _ _ y => y.elim)
  have hlt : s.heap.objs.size < c := x.above n c (mem_of_lookup e)
  exact ⟨hg.none (Nat.le_of_lt hlt), hlt⟩
end
end Mine
end
section
open PySem PySem.W PySem.Calls PyProof.Rows
set_option maxRecDepth 100000
set_option maxHeartbeats 4000000
namespace Mine
inductive FillEnts (ns : List Int) : List (Int × Value) → Tab → Prop
  | nil : FillEnts ns [] []
  | cons {k p u kvs τ} : FillEnts ns kvs τ → FillEnts ns ((k, .int (p.val ns) u) :: kvs) ((k, p) :: τ)
theorem FillEnts.snoc {ns kvs τ} (h : FillEnts ns kvs τ) (k : Int) (p : Part) (u : Tok) : FillEnts ns (kvs ++ [(k, .int (p.val ns) u)]) (τ ++ [(k, p)]) := by
  induction h with
  | nil => exact .cons .nil
  | cons _ ih => exact .cons ih
theorem FillEnts.keys {ns kvs τ} (h : FillEnts ns kvs τ) : kvs.map (·.1) = τ.map (·.1) := by
  induction h with
  | nil => rfl
  | cons _ ih => simp [ih]
theorem FillEnts.len {ns kvs τ} (h : FillEnts ns kvs τ) : kvs.length = τ.length := by
  induction h with
  | nil => rfl
  | cons _ ih => simp [ih]
def IsFill (w : World) (g : Heap) (D : Nat) (τ : Tab) (ns : List Int) : Prop := 185 < D ∧ ∃ kvs, g.DictOf (intKind P0 w) D kvs ∧ FillEnts ns kvs τ
theorem IsFill.up {w} {g g' : Heap} {D τ ns} (h : IsFill w g D τ ns) (s : Sub g g') : IsFill w g' D τ ns := by
  obtain ⟨b, kvs, h1, h2⟩ := h
  exact ⟨b, kvs, h1.at fun o e => s _ _ e, h2⟩
theorem Fz.hole {g₀ h₀ g h h' : Heap} {L : Nat} {m} {D : Nat} (F : Fz g₀ h₀ g h L m) (hs : ∀ (b : Nat) o, b ≠ D → h.get? b = some o → h'.get? b = some o) (hD : h₀.objs.size ≤ D) (hn : g.get? D = none) (hL : L ≠ D) : Fz g₀ h₀ g h' L m := by
  have ns' : h'.Ns L m := F.ns.at fun o e => hs L o hL e
  have lt := ns'.lt
  have ow := F.own
  refine ⟨⟨F.x.gg, fun b o e => hs b o (fun q => by rw [q, hn] at e; cases e) (F.x.gh b o e), fun b o e => hs b o (Nat.ne_of_lt (Nat.lt_of_lt_of_le (Heap.lt_size e) hD)) (F.x.hh b o e), F.x.new, ?_⟩, ns', ow, F.off⟩
  have t : @LT.lt Nat _ L h'.objs.size := lt
  omega
theorem LF.hole {g₀ h₀ g h h' : Heap} {L : Nat} {m cl cm} {D : Nat} (X : LF g₀ h₀ g h L m cl cm) (hs : ∀ (b : Nat) o, b ≠ D → h.get? b = some o → h'.get? b = some o) (hD : h₀.objs.size ≤ D) (hn : g.get? D = none) (hL : L ≠ D) (hc : ∀ n, cl.lookup n ≠ some D) : LF g₀ h₀ g h' L m cl cm :=
  ⟨X.F.hole hs hD hn hL, fun n c e => let ⟨o, ho, hd⟩ := X.cell n c e; ⟨o, hs c o (fun q => hc n (q ▸ e)) ho, hd⟩, X.coff, X.apart⟩
theorem stored_fill {w : World} {τ : Tab} {ns : List Int} {kvs₀ : List (Int × Value)} {g : Heap} (hE : TabEnts g kvs₀ τ) (nd : (τ.map (·.1)).Nodup) {FK : Value → Int → Prop} {FV : Value → Value → Prop}
    (hK : ∀ v k, FK v k → Value.isInt k v = true) (hV : ∀ v y, FV v y → ∃ k t p u, v = .int k t ∧ (∃ j : Nat, τ[j]? = some (k, p)) ∧ y = .int (p.val ns) u)
    {vs : List Value} {kvs : List (Int × Value)} (h : StoredAll FK FV vs kvs) (hP : ∀ (j : Nat) v, vs[j]? = some v → ∃ k x, kvs₀[j]? = some (k, x) ∧ Value.isInt k v = true) (hl : vs.length ≤ τ.length) : FillEnts ns kvs (τ.take vs.length) := by
  induction h with
  | nil => exact .nil
  | @snoc l kvs v k y h1 hk hv ih =>
    have hlen : l.length < τ.length := by rw [List.length_append, List.length_singleton] at hl; omega
    have ih' := ih (fun j v' e => hP j v' (by
      have : j < l.length := (List.getElem?_eq_some_iff.mp e).1
      rw [List.getElem?_append_left this]; exact e)) (Nat.le_of_lt hlen)
    obtain ⟨k', x, hx, hi⟩ := hP l.length v (by simp)
    obtain ⟨p', hp', _⟩ := hE.at hx
    have ek : k = k' := Value.isInt_inj _ _ _ (hK v k hk) hi
    subst ek
    obtain ⟨k2, t, p, u, rfl, ⟨j, hj⟩, rfl⟩ := hV v y hv
    have ek2 : k2 = k := by
      have := hi
      simp [Value.isInt] at this
      exact this
    subst ek2
    have ejl : j = l.length := by
      have e1 : (τ.map (·.1))[j]? = some k2 := by rw [List.getElem?_map, hj]; rfl
      have e2 : (τ.map (·.1))[l.length]? = some k2 := by rw [List.getElem?_map, hp']; rfl
      exact (List.getElem?_inj (by rw [List.length_map]; have := (List.getElem?_eq_some_iff.mp hj).1; exact this) nd).mp (e1.trans e2.symm)
    subst ejl
    have ep : p = p' := by rw [hj] at hp'; injection hp' with e; injection e
    subst ep
    rw [List.length_append, List.length_singleton, List.take_add_one, hj]
    have habs : valueAt kvs k2 = none := by
      unfold valueAt
      rw [Option.map_eq_none_iff, List.find?_eq_none]
      intro kv hkv e
      have e' : kv.1 = k2 := by simpa using e
      have hm : k2 ∈ kvs.map (·.1) := List.mem_map.mpr ⟨kv, hkv, e'⟩
      rw [ih'.keys] at hm
      obtain ⟨x', hx', e3⟩ := List.mem_map.mp hm
      obtain ⟨i, hi'⟩ := List.mem_iff_getElem?.mp hx'
      have hil : i < l.length := by
        rcases Nat.lt_or_ge i l.length with q | q
        · exact q
        · rw [List.getElem?_take_eq_none q] at hi'; cases hi'
      rw [List.getElem?_take_of_lt hil] at hi'
      have e4 : (τ.map (·.1))[i]? = some k2 := by rw [List.getElem?_map, hi']; simp [e3]
      have e5 : (τ.map (·.1))[l.length]? = some k2 := by rw [List.getElem?_map, hj]; rfl
      have := (List.getElem?_inj (by rw [List.length_map]; omega) nd).mp (e4.trans e5.symm)
      omega
    rw [stored_absent habs]
    exact ih'.snoc k2 p u
theorem valueAt_at {kvs : List (Int × Value)} (nd : (kvs.map (·.1)).Nodup) {i : Nat} {k : Int} {x : Value} (hi : kvs[i]? = some (k, x)) : valueAt kvs k = some x := by
  induction kvs generalizing i with
  | nil => simp at hi
  | cons y r ih =>
    rw [List.map_cons, List.nodup_cons] at nd
    cases i with
    | zero => simp at hi; subst hi; simp [valueAt]
    | succ j =>
      simp at hi
      have hne : ¬ y.1 = k := fun e => nd.1 (List.mem_map.mpr ⟨(k, x), List.mem_of_getElem? hi, e.symm⟩)
      have := ih nd.2 hi
      simp only [valueAt, List.find?_cons] at this ⊢
      rw [show (decide (y.1 = k)) = false from by simpa using hne]
      exact this
end Mine
end
section
open PySem PySem.W PySem.Calls PyProof.Rows
set_option maxRecDepth 100000
set_option maxHeartbeats 4000000
namespace Mine
section
variable {w : World} {mg mb : Str → Option Value} {A : Around} {E : Value → Shared → Prop} {s : Shared} {g : Heap} {env : Env}
/-- a dict comprehension of one clause, its loop left to the caller -/
theorem dcomp {kx vx iter : Expr} {x : Str} {px : Pos} {ifs : List Expr} {scope : Scope} {cl : List (Str × Addr)} {pos : Pos} {Q : Value → Shared → Prop}
    (hclos : closureFor scope env = pure cl) (hcell : ∀ y ∈ scope.names, y.2 ≠ .cell) (hkind : scope.kind = .function)
    (hnames : ∀ y ∈ scope.names, y.2 = .local → scope.names.lookup y.1 = some .local)
    (h : wpAny (model P0 w) A (eval iter env) (fun xv s₁ => wpAny (model P0 w) A (pyIter xv) (fun it s₂ => ∀ (D C : Nat) h', D = s₂.heap.objs.size → C = D + 1 → Sub s₂.heap h' → h'.objs.size = D + 2 → h'.get? D = some (dictOf [] 0) → h'.Ns C (fun _ => none) →
      ∀ loop, (loop = codeAny (model P0 w) A (.compLoop (.DictComp kx vx [⟨.Name x px, iter, ifs, 0⟩] scope pos) 0 it (.ref D) (compEnvC scope cl C env)) (compPost (model P0 w) A E none Q (.ref D) C) { s₂ with heap := h' }) →
        loop ∧ (loop → wpAny (model P0 w) A (pyIter it) (fun it' s' => it' = it ∧ s' = { s₂ with heap := h' }) (fun _ _ => False) { s₂ with heap := h' })) E s₁) E s)
    (hs : ∀ x, foldedSetIterable iter env x = pure x := by intro _; rfl) :
    wpAny (model P0 w) A (eval (.DictComp kx vx [⟨.Name x px, iter, ifs, 0⟩] scope pos) env) Q E s := by
  rw [arm_eval_DictComp]
  refine wpAny_comprehension_free (use := none) rfl hs hclos hkind hnames (wpAny_mono h (fun xv s₁ h₁ => wpAny_mono h₁ (fun it s₂ h₂ => ?_) fun _ _ e => e) fun _ _ e => e)
  refine wpAny_newObj_type (wpAny_newFunctionEnv hcell (by intro y hy; simp at hy) (fun h₁ hns₁ hsb₁ => ?_) hkind)
  dsimp only at hns₁ hsb₁ ⊢
  have sz1 : (s₂.heap.push { cls := .type "dict", dict := none, data := .dict #[] }).objs.size = s₂.heap.objs.size + 1 := Heap.size_push ..
  have dD : (s₂.heap.push { cls := .type "dict", dict := none, data := .dict #[] }).get? s₂.heap.objs.size = some (dictOf [] 0) := Heap.get?_push_size _ rfl
  have k1 : Sub s₂.heap (s₂.heap.push { cls := .type "dict", dict := none, data := .dict #[] }) := fun a o e => Heap.get?_push_of_some _ e
  generalize s₂.heap.push { cls := .type "dict", dict := none, data := .dict #[] } = H2 at *
  have k2 : Sub H2 h₁ := fun a o e => hsb₁.extBut a o (Nat.ne_of_lt (Heap.lt_size e)) (Heap.get?_push_of_some _ e)
  obtain ⟨lp, self⟩ := h₂ s₂.heap.objs.size H2.objs.size h₁ rfl sz1 (k1.trans k2) (by rw [hsb₁.1, Heap.size_push, sz1]) (k2 _ _ dD) hns₁ _ rfl
  refine codeAny_compStart_dict lp (wpAny_mono (self lp) (fun it' s' hx => ?_) fun _ _ z => z.elim)
  obtain ⟨rfl, rfl⟩ := hx
  exact lp
theorem Ext.ofSub {g h h' : Heap} (hg : Sub g h) (x : Sub h h') (sz : h.objs.size ≤ h'.objs.size) : Ext g h g h' := ⟨Sub.refl _, hg.trans x, x, fun _ _ => rfl, sz⟩
theorem Fz.holes {g₀ h₀ g h h' : Heap} {L : Nat} {m} (p : Nat → Prop) (F : Fz g₀ h₀ g h L m) (hs : ∀ (b : Nat) o, ¬ p b → h.get? b = some o → h'.get? b = some o) (hD : ∀ b, p b → h₀.objs.size ≤ b) (hn : ∀ b, p b → g.get? b = none) (hL : ¬ p L) : Fz g₀ h₀ g h' L m := by
  have ns' : h'.Ns L m := F.ns.at fun o e => hs L o hL e
  have lt := ns'.lt
  have ow := F.own
  refine ⟨⟨F.x.gg, fun b o e => hs b o (fun q => by rw [hn b q] at e; cases e) (F.x.gh b o e), fun b o e => hs b o (fun q => Nat.not_lt.mpr (hD b q) (Heap.lt_size e)) (F.x.hh b o e), F.x.new, ?_⟩, ns', ow, F.off⟩
  have t : @LT.lt Nat _ L h'.objs.size := lt
  omega
theorem filled_spec {d l : Nat} {τ : Tab} {ns : List Int} {Q : Value → Shared → Prop} (G : Gd w mg mb g) (hg : Sub g s.heap) (hroom : Rm 8 A) (hA : A.handled = none) (hd : IsTab w g d τ) (hl : IsInts g l ns) (hn' : ns.length < 1000) (hτ : τ.length ≤ 1000) (nd : (τ.map (·.1)).Nodup)
    (hv : ∀ x ∈ τ, ∀ t, x.2 = .var t → t < ns.length)
    (h : ∀ g' h' tk D, Ext g s.heap g' h' → IsFill w g' D τ ns → Q (.ref D) { s with heap := h', toks := tk }) :
    wpAny (model P0 w) A (call (.ref 280) [.ref d, .ref l] []) Q E s := by
  refine wpAny_call ?_
  refine callC G hg hroom.depth (binds := [("table", .ref d), ("given", .ref l)]) (by k_is) (by k_is) (BindsTo.of_eq rfl) (by intro n x hx; simp only [List.mem_cons, List.mem_nil_iff, or_false] at hx; rcases hx with rfl | rfl <;> exact .inr ⟨rfl, rfl⟩) (fun L h₁ tk X => ?_)
  dsimp only
  obtain ⟨bd, kvs, ep, hD, hE⟩ := hd
  have hDt : IsTab w g d τ := ⟨bd, kvs, ep, hD, hE⟩
  refine wpAny_execs_cons (wpAny_Return_some ?_)
  refine dcomp rfl (by decide) rfl (by decide) ?_
  refine ldC (X.cell "table" (L + 1) rfl) rfl ?_
  refine wpAny_pyIter_dict (knd := intKind P0 w) (not_sys bd) (hD.keep X.F.x.gh) ?_
  have k1 : Sub h₁ (h₁.push { cls := .type "dict_keyiterator", data := .fields #[.ref d, .int 0 0, .int kvs.length 0, .int ep 0] }) := fun a o e => Heap.get?_push_of_some _ e
  have sz1 : (h₁.push { cls := .type "dict_keyiterator", data := .fields #[.ref d, .int 0 0, .int kvs.length 0, .int ep 0] }).objs.size = h₁.objs.size + 1 := Heap.size_push ..
  have dI : (h₁.push { cls := .type "dict_keyiterator", data := .fields #[.ref d, .int 0 0, .int kvs.length 0, .int ep 0] }).IsKeyIter h₁.objs.size d 0 kvs.length ep := ⟨_, Heap.get?_push_size _ rfl, rfl, rfl⟩
  have X2 := X.keeps k1 (by omega)
  have hLs := X.F.lt
  have hs0 := X.F.x.sz
  have own := X.F.own
  obtain ⟨od, hod, _⟩ := hDt.obj
  have dlt : @LT.lt Nat _ d h₁.objs.size := Heap.lt_size (X.F.x.gh _ _ hod)
  have gI : g.get? h₁.objs.size = none := X.F.x.gh.none (Nat.le_refl _)
  dsimp only
  generalize h₁.push { cls := .type "dict_keyiterator", data := .fields #[.ref d, .int 0 0, .int kvs.length 0, .int ep 0] } = h₂ at *
  generalize hI : h₁.objs.size = I at *
  intro D C h₃ hDe hCe k2 sz2 dD hC loop hloop
  subst hloop
  have X3 := X2.keeps k2 (by omega)
  have hD3 := hD.keep X3.F.x.gh
  have dI3 : h₃.IsKeyIter I d 0 kvs.length ep := dI.at fun o e => k2 _ _ e
  have hE2 := hE.len
  have gD : g.get? D = none := X2.F.x.gh.none (by omega)
  have cells := fun n c (e : (cellsFrom (L + 1) [(Str.ofString "table", NameKind.cell), (Str.ofString "given", NameKind.cell)] []).lookup n = some c) => (show @LT.lt Nat _ c h₂.objs.size from (X2.cell n c e).lt)
  refine ⟨?_, fun _ => wpAny_pyIter_keyiter dI3 ⟨rfl, rfl⟩⟩
  have W := Walks.dictKeys (prog := P0) (w := w) (A := A.deeper (envX "_law_filled" { kind := ScopeKind.function, names := [(Str.ofString "table", NameKind.cell), (Str.ofString "given", NameKind.cell)], isGenerator := false, isCoroutine := false, more := [(Str.ofString "fast", Const.str (Str.ofString "table")), (Str.ofString "fast", Const.str (Str.ofString "given")), (Str.ofString "fast", Const.str (Str.ofString "key"))] } L 280 (.ref 279) (cellsFrom (L + 1) [(Str.ofString "table", NameKind.cell), (Str.ofString "given", NameKind.cell)] []))) (knd := intKind P0 w) hA I d (Nat.ne_of_lt dlt) kvs ep
  refine codeAny_compLoop_walkD (knd := intKind P0 w) W (fun _ => true) (fun v k => (intKind P0 w).is k v = true) (fun v y => ∃ k t p u, v = .int k t ∧ (∃ j : Nat, τ[j]? = some (k, p)) ∧ y = .int (p.val ns) u) rfl rfl ?_ ?_ ?_ ⟨dI3, hD3⟩ ⟨_, #[], 0, dD, ⟨rfl, rfl, rfl⟩, rfl, (fun e he => by simp at he), .nil, List.nodup_nil⟩ hC ?_ ?_ ?_ ?_ (by rw [sizeLine_eq]; omega)
  · show @Ne Nat D C
    omega
  · simp only [List.mem_cons, List.mem_nil_iff, or_false]
    show ¬ (@Eq Nat D I ∨ @Eq Nat D d)
    omega
  · simp only [List.mem_cons, List.mem_nil_iff, or_false]
    show ¬ (@Eq Nat C I ∨ @Eq Nat C d)
    omega
  · intro i v s₃ m₃ hP hn hm hk
    exact wpAny_pure ⟨rfl, s₃.heap, s₃.toks, rfl, fun _ _ e => e⟩
  · intro i v s₃ m₃ hP hp hn hm hk
    obtain ⟨k, x, hx, hi⟩ := hP
    exact ldN hn hm ⟨⟨k, hi, hi⟩, s₃.heap, s₃.toks, rfl, fun _ _ e => e⟩
  · intro i v s₃ m₃ hP hp hn hm hk
    have gC : g.get? C = none := X2.F.x.gh.none (by omega)
    have hg3 : Sub g s₃.heap := fun a o e => hk a o (fun q => by rw [show a = C from q, gC] at e; cases e) (fun q => by rw [List.mem_singleton.mp q, gI] at e; cases e) (fun q => by rw [q, gD] at e; cases e) (X3.F.x.gh a o e)
    have c1 : @LT.lt Nat _ (L + 1) h₁.objs.size := (X.cell "table" (L + 1) rfl).lt
    have c2 : @LT.lt Nat _ (L + 2) h₁.objs.size := (X.cell "given" (L + 2) rfl).lt
    have hc1 : s₃.heap.IsCell (L + 1) (some (.ref d)) := by
      obtain ⟨o, ho, hdo⟩ := X3.cell "table" (L + 1) rfl
      exact ⟨o, hk _ o (show @Ne Nat (L + 1) C by omega) (fun q => by have := List.mem_singleton.mp q; have q' : @Eq Nat (L + 1) I := this; omega) (show @Ne Nat (L + 1) D by omega) ho, hdo⟩
    have hc2 : s₃.heap.IsCell (L + 2) (some (.ref l)) := by
      obtain ⟨o, ho, hdo⟩ := X3.cell "given" (L + 2) rfl
      exact ⟨o, hk _ o (show @Ne Nat (L + 2) C by omega) (fun q => by have := List.mem_singleton.mp q; have q' : @Eq Nat (L + 2) I := this; omega) (show @Ne Nat (L + 2) D by omega) ho, hdo⟩
    obtain ⟨k, x, hx, hi⟩ := hP
    obtain ⟨t, rfl⟩ := Value.isInt_shape hi
    obtain ⟨p, hτi, hpx⟩ := hE.at hx
    have hd3 : s₃.heap.DictOf (intKind P0 w) d kvs := hD.dictOf.at fun o e => hg3 _ _ e
    refine Call_Name rfl (nameG G hg3 (by k_is) (callWith_K G.k (by k_is) (spliced_more (Subscript_ (ldC hc1 rfl (ldN hn hm ?_))))))
    refine tail_any hd3.typeIs slot_dict_getitem.lookup ?_ (by with_unfolding_all rfl)
    refine wpAny_getItem_of (knd := intKind P0 w) hi hd3.mapOf (valueAt_at hD.nodup hx) ?_
    refine spliced_more (ldC hc2 rfl (spliced_none ?_))
    refine ⟨G.k.keeps hg3, ?_⟩
    dsimp only [List.nil_append, List.cons_append]
    have dp := hroom.1
    refine value_spec G hg3 (by rw [depth_deeper]; omega) hpx hl hn' (fun t' e => hv _ (List.mem_of_getElem? hτi) t' e) (fun h4 tk4 tk5 x4 => ?_)
    exact ⟨⟨k, t, p, tk5, rfl, ⟨i, hτi⟩, rfl⟩, h4, _, rfl, x4.hh⟩
  · intro h' tk' m' kvs' vs hnn hD' hlen hP hS hk
    refine ⟨m', hnn, fun h5 hs5 => ?_⟩
    have gC : g.get? C = none := X2.F.x.gh.none (by omega)
    have F5 := X3.F.holes (h' := h5) (fun b => b = C ∨ b = I ∨ b = D) (fun b o hb e => (hs5.2 b (fun q => hb (.inl q))).trans (hk b o (fun q => hb (.inl q)) (fun q => hb (.inr (.inl (List.mem_singleton.mp q)))) (fun q => hb (.inr (.inr q))) e))
      (fun b hb => by rcases hb with rfl | rfl | rfl <;> omega) (fun b hb => by rcases hb with rfl | rfl | rfl; exact gC; exact gI; exact gD) (by omega)
    have hDC : @Ne Nat D C := by omega
    obtain ⟨g', F6, sub, yes, no⟩ := F5.freeze (fun a => a = D) (fun a ha => by rw [ha]; omega) (fun q => by have q' : @Eq Nat L _ := q; omega)
    refine h g' h5 _ D F6.x ⟨?_, kvs', hD'.at fun o e => (yes _ rfl).trans ((hs5.2 D hDC).trans e), ?_⟩
    · have := G.big X.F.x.gh
      omega
    · have eF : vs.filter (fun _ => true) = vs := List.filter_eq_self.mpr (fun _ _ => rfl)
      rw [eF] at hS
      have := stored_fill (ns := ns) (w := w) hE nd (fun v k hk => hk) (fun v y hy => hy) hS (fun j v e => hP j v e) (by omega)
      rwa [hlen, hE2, List.take_length] at this
end
end Mine
end
section
open PySem PySem.W PySem.Calls PyProof.Rows
set_option maxRecDepth 100000
set_option maxHeartbeats 4000000
namespace Mine
def fillAt (ns : List Int) (τ : Tab) (x : Int × Part) : Bool := match tabAt τ x.1 with
  | some q => x.2.val ns == q.val ns
  | none => false
/-- do two tables say the same of a row -/
def fillB (ns : List Int) (τ1 τ2 : Tab) : Bool := τ1.length == τ2.length && τ1.all (fillAt ns τ2)
theorem FillEnts.look {ns kvs τ} (h : FillEnts ns kvs τ) (k : Int) : (∃ q u, tabAt τ k = some q ∧ valueAt kvs k = some (.int (q.val ns) u)) ∨ (tabAt τ k = none ∧ valueAt kvs k = none) := by
  induction h with
  | nil => exact .inr ⟨rfl, rfl⟩
  | @cons k' p u kvs τ _ ih =>
    unfold tabAt valueAt at *
    simp only [List.find?_cons]
    by_cases e : k' = k
    · simp only [e, decide_true]; exact .inl ⟨p, u, rfl, rfl⟩
    · simp only [e, decide_false]; exact ih
theorem fill_hits {A : Around} {s : Shared} {ns : List Int} {ka kb : List (Int × Value)} {τ1 τ2 : Tab} (h1 : FillEnts ns ka τ1) (h2 : FillEnts ns kb τ2) : KeqHits A s kb ka (τ1.all (fillAt ns τ2)) := by
  induction h1 with
  | nil => exact .nil
  | @cons k p u kvs τ _ ih =>
    rw [List.all_cons]
    rcases h2.look k with ⟨q, u', e1, e2⟩ | ⟨e1, e2⟩
    · have : fillAt ns τ2 (k, p) = (p.val ns == q.val ns) := by simp only [fillAt, e1]
      rw [this]
      exact .hit e2 (PySem.SeqAt.EqAt.int_int _ _ _ _) ih
    · have : fillAt ns τ2 (k, p) = false := by simp only [fillAt, e1]
      rw [this, Bool.false_and]
      exact .miss e2
section
variable {w : World} {mg mb : Str → Option Value} {A : Around} {E : Value → Shared → Prop} {s : Shared} {g : Heap}
theorem fill_eq {a b : Nat} {τ1 τ2 : Tab} {ns : List Int} {Q : Value → Shared → Prop} (ha : IsFill w s.heap a τ1 ns) (hb : IsFill w s.heap b τ2 ns) (hu : A.units < cLine) (h : Q (.bool (fillB ns τ1 τ2)) s) :
    wpAny (model P0 w) A (compareOp .Eq (.ref a) (.ref b)) Q E s := by
  obtain ⟨ba, ka, da, fa⟩ := ha
  obtain ⟨bb, kb, db, fb⟩ := hb
  refine keq_eq (knd := intKind P0 w) (not_sys ba) (not_sys bb) da db hu (fun _ => fill_hits fa fb) ?_
  rw [fa.len, fb.len]
  exact h
end
end Mine
end
section
open PySem PySem.W PySem.Calls PyProof.Rows
set_option maxRecDepth 100000
set_option maxHeartbeats 4000000
namespace Mine
section
variable {w : World} {mg mb : Str → Option Value} {A : Around} {E : Value → Shared → Prop} {s : Shared} {g : Heap} {env : Env}
theorem sliceUpto {value : Expr} {k : Nat} {p1 p pos : Pos} {l : Nat} {ns : List Int} {Q : Value → Shared → Prop} (hl : IsInts s.heap l ns) (hsz : ns.length ≤ 1000) (hv : ∀ Q' : Value → Shared → Prop, Q' (.ref l) s → wpAny (model P0 w) A (eval value env) Q' E s)
    (ht : ∀ o r, letTemporaryGo value o r = pure ())
    (h : ∀ h' tk (r : Nat), Sub s.heap h' → h'.objs.size = s.heap.objs.size + 2 → r = s.heap.objs.size + 1 → IsInts h' r (ns.take 4) → Q (.ref r) { s with heap := h', toks := tk }) :
    wpAny (model P0 w) A (eval (.Subscript value (.Slice none (some (.Constant (.int 4) k p1)) none p) pos) env) Q E s := by
  obtain ⟨vs, hL, hI⟩ := hl
  refine wpAny_Subscript_Slice (T := "list") list_getitem_lookup (hv _ ?_) ht
  refine wpAny_Slice (wpAny_pure ?_)
  show wpAny _ _ (eval (.Constant (.int 4) k p1) env) _ _ _
  refine wpAny_Constant_int (wpAny_pure ?_)
  have k1 : Sub s.heap (s.heap.push { cls := .type "slice", data := .fields #[.none, .int 4 s.toks, .none] }) := fun a o e => Heap.get?_push_of_some _ e
  have sz1 : (s.heap.push { cls := .type "slice", data := .fields #[.none, .int 4 s.toks, .none] }).objs.size = s.heap.objs.size + 1 := Heap.size_push ..
  have hs1 := Heap.IsSliceOf.new s.heap .none (.int 4 s.toks) .none
  dsimp only
  generalize s.heap.push { cls := .type "slice", data := .fields #[.none, .int 4 s.toks, .none] } = h1 at *
  have hL1 : h1.IsList l vs.toArray := let ⟨o, ho, r⟩ := hL; ⟨o, k1 _ _ ho, r⟩
  refine ⟨let ⟨o, ho, hc, _⟩ := hL1; ⟨o, ho, hc⟩, ?_⟩
  refine wpAny_getItem_list_slice hL1 hs1 .none (.int 4 s.toks) .none (by simp) ?_ (by rw [List.size_toArray, hI.length, sizeLine_eq]; omega)
  have e4 : slicePick vs.toArray none (some 4) none = (vs.take 4).toArray := slicePick_upto' vs.toArray 4
  rw [e4]
  dsimp only
  rw [sz1]
  exact h _ _ (s.heap.objs.size + 1) (k1.trans fun a o e => Heap.get?_push_of_some _ e) (by rw [Heap.size_push, sz1]) rfl ⟨vs.take 4, ⟨_, by rw [← sz1]; exact Heap.get?_push_size _ rfl, rfl, _, rfl⟩, hI.take 4⟩
theorem dropAt {l n : Nat} {u : Tok} {ns : List Int} {Q : Value → Shared → Prop} (hl : IsInts s.heap l ns) (hsz : ns.length ≤ 1000)
    (h : ∀ h' (r : Nat), Sub s.heap h' → h'.objs.size = s.heap.objs.size + 2 → r = s.heap.objs.size + 1 → IsInts h' r (ns.drop n) → Q (.ref r) { s with heap := h' }) :
    let s2 : Shared := { s with heap := s.heap.push { cls := .type "slice", data := .fields #[.int n u, .none, .none] } }
    s2.TypeIs (.ref l) "list" ∧ wpAny (model P0 w) A (getItem (.ref l) (.ref s.heap.objs.size)) Q E s2 := by
  obtain ⟨vs, hL, hI⟩ := hl
  have k1 : Sub s.heap (s.heap.push { cls := .type "slice", data := .fields #[.int n u, .none, .none] }) := fun a o e => Heap.get?_push_of_some _ e
  have sz1 : (s.heap.push { cls := .type "slice", data := .fields #[.int n u, .none, .none] }).objs.size = s.heap.objs.size + 1 := Heap.size_push ..
  have hs1 := Heap.IsSliceOf.new s.heap (.int n u) .none .none
  dsimp only
  generalize s.heap.push { cls := .type "slice", data := .fields #[.int n u, .none, .none] } = h1 at *
  have hL1 : h1.IsList l vs.toArray := let ⟨o, ho, r⟩ := hL; ⟨o, k1 _ _ ho, r⟩
  refine ⟨let ⟨o, ho, hc, _⟩ := hL1; ⟨o, ho, hc⟩, ?_⟩
  refine wpAny_getItem_list_slice hL1 hs1 (.int n u) .none .none (by simp) ?_ (by rw [List.size_toArray, hI.length, sizeLine_eq]; omega)
  have e4 : slicePick vs.toArray (some (n : Int)) none none = (vs.drop n).toArray := slicePick_from' vs.toArray n
  rw [e4]
  dsimp only
  rw [sz1]
  exact h _ (s.heap.objs.size + 1) (k1.trans fun a o e => Heap.get?_push_of_some _ e) (by rw [Heap.size_push, sz1]) rfl ⟨vs.drop n, ⟨_, by rw [← sz1]; exact Heap.get?_push_size _ rfl, rfl, _, rfl⟩, hI.drop n⟩
theorem addInts {l b : Nat} {ns ms : List Int} {Q : Value → Shared → Prop} (hl : IsInts s.heap l ns) (hb : IsInts s.heap b ms) (hz : ns.length + ms.length ≤ 1000)
    (h : ∀ h' (r : Nat), Sub s.heap h' → h'.objs.size = s.heap.objs.size + 1 → r = s.heap.objs.size → IsInts h' r (ns ++ ms) → Q (.ref r) { s with heap := h' }) :
    wpAny (model P0 w) A (binaryOp .Add (.ref l) (.ref b)) Q E s := by
  obtain ⟨vs, hL, hI⟩ := hl
  obtain ⟨us, hL2, hI2⟩ := hb
  obtain ⟨⟨cls, dd, data, sl⟩, ho, hc, n, hd⟩ := id hL
  obtain ⟨⟨cls2, dd2, data2, sl2⟩, ho2, hc2, n2, hd2⟩ := id hL2
  simp only at hc hd hc2 hd2
  subst hc hd hc2 hd2
  have e : vs.toArray ++ us.toArray = (vs ++ us).toArray := by simp
  refine concat_meets ⟨_, ho, rfl⟩ ⟨_, ho2, rfl⟩ noFill_list_add seq_list_add PySem.F.slot_list_add PySem.F.entry_list_add (PySem.F.args_list_add_2 _ _) (list_addW l b vs.toArray us.toArray n n2 dd dd2 sl sl2 (by rw [List.size_toArray, List.size_toArray, hI.length, hI2.length, sizeLine_eq]; omega)) ⟨ho, ho2, ?_⟩
  rw [e]
  exact h _ s.heap.objs.size (fun a o e => Heap.get?_push_of_some _ e) (Heap.size_push ..) rfl ⟨vs ++ us, ⟨_, Heap.get?_push_size _ rfl, rfl, _, rfl⟩, hI.append hI2⟩
theorem numbers_spec {Q : Value → Shared → Prop} (G : Gd w mg mb g) (hg : Sub g s.heap) (hroom : A.depth < recursionLimit)
    (h : ∀ g' h' tk (r : Nat), Ext g s.heap g' h' → IsInts g' r [96, 496, 256, 416] → Q (.ref r) { s with heap := h', toks := tk }) :
    wpAny (model P0 w) A (call (.ref 261) [] []) Q E s := by
  refine wpAny_call ?_
  refine callZ G hg hroom (binds := []) (by k_is) (by k_is) (BindsTo.of_eq rfl) (by decide) (by intro x hx; cases hx) (fun L h₁ F => ?_)
  dsimp only
  refine wpAny_execs_cons (wpAny_Return_some (wpAny_List (spliced_more (wpAny_Constant_int (spliced_more (wpAny_Constant_int (spliced_more (wpAny_Constant_int (spliced_more (wpAny_Constant_int (spliced_none ⟨by simp [sizeLine_eq], ?_⟩)))))))))))
  dsimp only
  generalize ho : ({ cls := .type "list", data := .seq [Value.int 96 (s.toks + List.length ([] : List (Str × Value))), .int 496 (s.toks + List.length ([] : List (Str × Value)) + 1), .int 256 (s.toks + List.length ([] : List (Str × Value)) + 1 + 1), .int 416 (s.toks + List.length ([] : List (Str × Value)) + 1 + 1 + 1)].toArray } : Obj) = o1
  have F2 := F.keeps (h' := h₁.push o1) (fun a o e => Heap.get?_push_of_some _ e) (by rw [Heap.size_push]; omega)
  have dD : (h₁.push o1).get? h₁.objs.size = some o1 := Heap.get?_push_size _ (by rw [← ho]; rfl)
  have hs0 := F.x.sz
  have hLs := F.lt
  obtain ⟨g', F3, sub, yes, no⟩ := F2.freeze (fun a => a = h₁.objs.size) (fun a ha => by rw [ha]; omega) (fun q => by have q' : @Eq Nat L _ := q; omega)
  exact h g' _ _ h₁.objs.size F3.x ⟨_, ⟨o1, (yes _ rfl).trans dD, by rw [← ho], 0, by rw [← ho]⟩, .cons _ _ (.cons _ _ (.cons _ _ (.cons _ _ .nil)))⟩
end
end Mine
end
section
open PySem PySem.W PySem.Calls PyProof.Rows
set_option maxRecDepth 100000
set_option maxHeartbeats 4000000
namespace Mine
theorem TabEnts.snoc {g : Heap} {kvs τ} (h : TabEnts g kvs τ) {k : Int} {v : Value} {p : Part} (hv : IsPart g v p) : TabEnts g (kvs ++ [(k, v)]) (τ ++ [(k, p)]) := by
  induction h with
  | nil => exact .cons hv .nil
  | cons a _ ih => exact .cons a ih
theorem TabEnts.keys {g : Heap} {kvs τ} (h : TabEnts g kvs τ) : kvs.map (·.1) = τ.map (·.1) := by
  induction h with
  | nil => rfl
  | cons a _ ih => simp [ih]
/-- the table of the keys that pass -/
def tabOf (pz : Int → Bool) (f : Int → Part) (ks : List Int) : Tab := (ks.filter pz).map fun k => (k, f k)
theorem tabOf_snoc (pz f ks k) : tabOf pz f (ks ++ [k]) = if pz k then tabOf pz f ks ++ [(k, f k)] else tabOf pz f ks := by
  unfold tabOf
  rw [List.filter_append]
  cases h : pz k <;> simp [h]
theorem tabOf_keys {pz f ks} {k : Int} (h : k ∈ (tabOf pz f ks).map (·.1)) : k ∈ ks := by
  unfold tabOf at h
  rw [List.map_map] at h
  obtain ⟨x, hx, rfl⟩ := List.mem_map.mp h
  exact (List.mem_filter.mp hx).1
section
variable {w : World} {mg mb : Str → Option Value} {A : Around} {E : Value → Shared → Prop} {s : Shared} {g : Heap} {env : Env}
theorem tabcomp {vx iter c : Expr} {px kpos : Pos} {scope : Scope} {cl : List (Str × Addr)} {pos : Pos} {g₀ h₀ : Heap} {L : Nat} {m : Str → Option Value} {cl' : List (Str × Addr)} {cm : Str → Option Value} {Q : Value → Shared → Prop} (ks : List Int) (pz : Int → Bool) (f : Int → Part)
    (G : Gd w mg mb g) (X : LF g₀ h₀ g s.heap L m cl' cm) (hA : A.handled = none) (hclos : closureFor scope env = pure cl) (hcell : ∀ y ∈ scope.names, y.2 ≠ .cell) (hkind : scope.kind = .function)
    (hnames : ∀ y ∈ scope.names, y.2 = .local → scope.names.lookup y.1 = some .local) (hxk : scope.names.lookup ("k" : Str) = some NameKind.local) (hlen : ks.length ≤ 100) (hnd : ks.Nodup) (hf : ∀ x, foldedSetIterable iter env x = pure x)
    (hiter : ∀ Q' : Value → Shared → Prop, (∀ h' tk (l : Nat), Sub s.heap h' → s.heap.objs.size ≤ h'.objs.size → IsInts h' l ks → Q' (.ref l) { s with heap := h', toks := tk }) → wpAny (model P0 w) A (eval iter env) Q' E s)
    (htest : ∀ (C : Nat) s' g' m' k t E', LF g₀ h₀ g' s'.heap L m cl' cm → Sub g g' → s'.heap.Ns C m' → m' "k" = some (.int k t) → k ∈ ks → ∀ Q' : Bool → Shared → Prop, (∀ tk, Q' (pz k) { s' with toks := tk }) →
      wpAny (model P0 w) A (isTrue c (compEnvC scope cl C env) (eval c (compEnvC scope cl C env))) Q' E' s')
    (hval : ∀ (C : Nat) s' g' m' k t E', LF g₀ h₀ g' s'.heap L m cl' cm → Sub g g' → s'.heap.Ns C m' → m' "k" = some (.int k t) → k ∈ ks → pz k = true → ∀ Q' : Value → Shared → Prop, (∀ g'' h' tk v, Ext g' s'.heap g'' h' → IsPart g'' v (f k) → Q' v { s' with heap := h', toks := tk }) →
      wpAny (model P0 w) A (eval vx (compEnvC scope cl C env)) Q' E' s')
    (h : ∀ g' h' tk (D : Nat), LF g₀ h₀ g' h' L m cl' cm → Sub g g' → IsTab w g' D (tabOf pz f ks) → s.heap.objs.size ≤ D → D < h'.objs.size → Q (.ref D) { s with heap := h', toks := tk }) :
    wpAny (model P0 w) A (eval (.DictComp (.Name "k" kpos) vx [⟨.Name "k" px, iter, [c], 0⟩] scope pos) env) Q E s := by
  refine dcomp hclos hcell hkind hnames (hiter _ fun h1 tk1 l k1 sz1 hl => ?_) hf
  obtain ⟨vs, hL, hI⟩ := hl
  refine wpAny_pyIter_list hL ?_
  dsimp only
  have k2 : Sub h1 (h1.push { cls := .type "list_iterator", data := .fields #[.ref l, .int 0 0] }) := fun a o e => Heap.get?_push_of_some _ e
  have sz2 : (h1.push { cls := .type "list_iterator", data := .fields #[.ref l, .int 0 0] }).objs.size = h1.objs.size + 1 := Heap.size_push ..
  have dI : (h1.push { cls := .type "list_iterator", data := .fields #[.ref l, .int 0 0] }).IsListIter h1.objs.size l 0 := ⟨_, Heap.get?_push_size _ rfl, rfl, rfl⟩
  have X1 := X.keeps k1 sz1
  have X2 := X1.keeps k2 (by omega)
  have lL : @LT.lt Nat _ l h1.objs.size := let ⟨o, ho, _⟩ := hL; Heap.lt_size ho
  have gI : g.get? h1.objs.size = none := X1.F.x.gh.none (Nat.le_refl _)
  have hL2 : Heap.IsList (h1.push { cls := .type "list_iterator", data := .fields #[.ref l, .int 0 0] }) l vs.toArray := let ⟨o, ho, r⟩ := hL; ⟨o, k2 _ _ ho, r⟩
  generalize h1.push { cls := .type "list_iterator", data := .fields #[.ref l, .int 0 0] } = h2 at *
  generalize hIe : h1.objs.size = I at *
  intro D C h3 hDe hCe k3 sz3 dD hC loop hloop
  subst hloop
  have X3 := X2.keeps k3 (by omega)
  have gD : g.get? D = none := X2.F.x.gh.none (by omega)
  have gC : g.get? C = none := X2.F.x.gh.none (by omega)
  have dI3 : h3.IsListIter I l 0 := let ⟨o, ho, r⟩ := dI; ⟨o, k3 _ _ ho, r⟩
  have hL3 : h3.IsList l vs.toArray := let ⟨o, ho, r⟩ := hL2; ⟨o, k3 _ _ ho, r⟩
  have big := G.big X.F.x.gh
  have hs0 := X.F.x.sz
  have own := X.F.own
  have Llt : @LT.lt Nat _ L s.heap.objs.size := X.F.lt
  have cc : ∀ n c', cl'.lookup n = some c' → @LT.lt Nat _ c' s.heap.objs.size := fun n c' e => (X.cell n c' e).lt
  have nD : ∀ n, cl'.lookup n ≠ some D := fun n e => by have := cc n D e; omega
  have nC : ∀ n, cl'.lookup n ≠ some C := fun n e => by have := cc n C e; omega
  have nI : ∀ n, cl'.lookup n ≠ some I := fun n e => by have := cc n I e; omega
  have hxl : ∀ C, (compEnvC scope cl C env).kindOf "k" = some .local := fun C => lookup_relabel_local hxk
  have hsc : ((compEnvC scope cl C env).scope.kind == .class || ((compEnvC scope cl C env).scope.kind == .module && (compEnvC scope cl C env).locals != (compEnvC scope cl C env).globals)) = false := by simp [compEnvC, relabel, hkind]
  have hkd : (compEnvC scope cl C env).scope.kind = .function := hkind
  have hvl := hI.length
  refine ⟨?_, fun _ => wpAny_pyIter_listiter dI3 ⟨rfl, rfl⟩⟩
  refine codeAny_compLoop_testsD (fun n s' => ∃ (i : Nat) (h' : Heap) (tk : Tok) (g' : Heap) (kvs : List (Int × Value)) (m' : Str → Option Value), s' = { s with heap := h', toks := tk } ∧ LF g₀ h₀ g' h' L m cl' cm ∧ Sub g g' ∧ h'.DictOf (intKind P0 w) D kvs ∧ TabEnts g' kvs (tabOf pz f (ks.take i)) ∧ h'.Ns C m' ∧
    h'.IsListIter I l i ∧ h'.IsList l vs.toArray ∧ g'.get? D = none ∧ g'.get? C = none ∧ g'.get? I = none ∧ i ≤ ks.length ∧ n = ks.length + 1 - i) ?_ (ks.length + 1)
    ⟨0, h3, _, g, [], _, rfl, X3, Sub.refl _, ⟨_, #[], 0, dD, ⟨rfl, rfl, rfl⟩, rfl, (fun e he => by simp at he), .nil, List.nodup_nil⟩, .nil, hC, dI3, hL3, gD, gC, gI, Nat.zero_le _, rfl⟩
  rintro n s' ⟨i, h', tk, g', kvs, m', rfl, X', sub, hDk, hE, hC', hit, hLl, oD, oC, oI, hi, rfl⟩
  cases hx : ks[i]? with
  | none =>
    have hin : i = ks.length := by have : ks.length ≤ i := by simpa using hx
                                   omega
    refine wpAny_pyNext_list_end hA hit hLl (by rw [List.getElem?_toArray]; exact List.getElem?_eq_none (by omega)) (fun h4 hx4 => ?_)
    have X4 := X'.hole (h' := h4) (D := I) hx4 (by omega) oI (by omega) nI
    have hC4 : h4.Ns C m' := hC'.at fun o e => hx4 C o (show @Ne Nat C I by omega) e
    have hD4 := hDk.at fun o e => hx4 D o (show @Ne Nat D I by omega) e
    refine ⟨m', hC4, fun h5 hs5 => ?_⟩
    have X5 := X4.at hs5 (by omega) oC (by omega) nC
    have hD5 := hD4.at fun o e => (hs5.2 D (show @Ne Nat D C by omega)).trans e
    obtain ⟨g6, X6, sub6, yes, no⟩ := X5.freeze (fun a => a = D) (fun a ha => by rw [ha]; omega) (fun q => by have q' : @Eq Nat L _ := q; omega) (fun n c' e q => nD n (by rw [e, show c' = D from q]))
    have dlt : @LT.lt Nat _ D h5.objs.size := let ⟨o, ho, _⟩ := Heap.dictOf_iff.mp hD5; Heap.lt_size ho
    obtain ⟨ep, hAt⟩ := (hD5.at fun o e => (yes _ rfl).trans e : g6.DictOf (intKind P0 w) D kvs).dictAt
    refine h g6 h5 _ D X6 (sub.trans sub6) ⟨by omega, kvs, ep, hAt, ?_⟩ (by omega) dlt
    rw [hin, List.take_length] at hE
    exact hE.up sub6
  | some k =>
    have hlt : i < ks.length := (List.getElem?_eq_some_iff.mp hx).1
    obtain ⟨t, hvt⟩ := intsAre_at hI hx
    have hmem := List.mem_of_getElem? hx
    refine wpAny_pyNext_list_item hit hLl (by rw [List.getElem?_toArray]; exact hvt) (fun h4 hit4 sb4 => ?_)
    dsimp only at sb4 ⊢
    have X4 := X'.at sb4 (by omega) oI (by omega) nI
    have nIC : @Ne Nat C I := by omega
    have nID : @Ne Nat D I := by omega
    have nIl : @Ne Nat l I := by omega
    have nCD : @Ne Nat D C := by omega
    have nCI : @Ne Nat I C := by omega
    have nCl : @Ne Nat l C := by omega
    have nDC : @Ne Nat C D := by omega
    have nDI : @Ne Nat I D := by omega
    have nDl : @Ne Nat l D := by omega
    refine wpAny_assign_Name (stN (env := compEnvC scope cl C env) (hC'.sameBut sb4 nIC) (fun h5 hC5 sb5 => ?_) rfl hsc (hxl C))
    dsimp only at sb5 ⊢
    have X5 := X4.at sb5 (by omega) oC (by omega) nC
    have hD5 : h5.DictOf (intKind P0 w) D kvs := hDk.at fun o e => (sb5.2 D nCD).trans ((sb4.2 D nID).trans e)
    have hit5 : h5.IsListIter I l (i + 1) := let ⟨o, ho, r⟩ := hit4; ⟨o, (sb5.2 I nCI).trans ho, r⟩
    have hL5 : h5.IsList l vs.toArray := let ⟨o, ho, r⟩ := hLl; ⟨o, (sb5.2 l nCl).trans ((sb4.2 l nIl).trans ho), r⟩
    have tk1 : ks.take (i + 1) = ks.take i ++ [k] := by rw [List.take_add_one, hx]; rfl
    rw [List.forIn_cons]
    simp only [if_true]
    refine wpAny_bind (wpAny_bind (htest C _ g' _ k t _ X5 sub hC5 rfl hmem _ fun tk5 => wpAny_pure ?_))
    refine wpAny_pure ?_
    dsimp only
    cases hp : pz k with
    | false =>
      simp only [Bool.false_eq_true, if_false]
      refine ⟨ks.length + 1 - (i + 1), by omega, i + 1, h5, _, g', kvs, _, rfl, X5, sub, hD5, ?_, hC5, hit5, hL5, oD, oC, oI, hlt, rfl⟩
      rw [tk1, tabOf_snoc, hp]
      exact hE
    | true =>
      simp only [if_true]
      refine ldN (env := compEnvC scope cl C env) hC5 rfl ?_ rfl hkd (hxl C)
      refine hval C _ g' _ k t _ X5 sub hC5 rfl hmem hp _ (fun g6 h6 tk6 v x6 hv => ?_)
      dsimp only at x6 ⊢
      have X6 := X5.ext x6
      have hkl : kvs.length = (tabOf pz f (ks.take i)).length := hE.len
      have hkl2 : (tabOf pz f (ks.take i)).length ≤ ks.length := by
        unfold tabOf
        rw [List.length_map]
        exact Nat.le_trans (List.length_filter_le _ _) (by rw [List.length_take]; omega)
      refine wpAny_dictSet_pairs (knd := intKind P0 w) (k := k) (by simp [intKind, Value.isInt]) (hD5.at fun o e => x6.hh _ _ e) (fun h7 hD7 sb7 => ?_) (by rw [sizeLine_eq]; omega)
      dsimp only at sb7 ⊢
      have ltD : @LT.lt Nat _ D h5.objs.size := let ⟨o, ho, _⟩ := Heap.dictOf_iff.mp hD5; Heap.lt_size ho
      have ltI : @LT.lt Nat _ I h5.objs.size := let ⟨o, ho, _⟩ := hit5; Heap.lt_size ho
      have oD6 := (x6.new D ltD).trans oD
      have oC6 := (x6.new C hC5.lt).trans oC
      have oI6 := (x6.new I ltI).trans oI
      have X7 := X6.at sb7 (by omega) oD6 (by omega) nD
      have habs : valueAt kvs k = none := by
        unfold valueAt
        rw [Option.map_eq_none_iff, List.find?_eq_none]
        intro kv hkv e
        have e' : kv.1 = k := by simpa using e
        have hm : k ∈ kvs.map (·.1) := List.mem_map.mpr ⟨kv, hkv, e'⟩
        rw [hE.keys] at hm
        have hm2 := tabOf_keys hm
        obtain ⟨j, hj⟩ := List.mem_iff_getElem?.mp hm2
        have hjl : j < i := by
          rcases Nat.lt_or_ge j i with q | q
          · exact q
          · rw [List.getElem?_take_eq_none q] at hj; cases hj
        rw [List.getElem?_take_of_lt hjl] at hj
        have := (List.getElem?_inj (by omega) hnd).mp (hj.trans hx.symm)
        omega
      rw [stored_absent habs] at hD7
      refine ⟨ks.length + 1 - (i + 1), by omega, i + 1, h7, _, g6, _, _, rfl, X7, sub.trans x6.gg, hD7, ?_, (hC5.keeps x6.hh).sameBut sb7 nDC, ?_, ?_, oD6, oC6, oI6, hlt, rfl⟩
      · rw [tk1, tabOf_snoc, hp]
        exact (hE.up x6.gg).snoc hv
      · obtain ⟨o, ho, r⟩ := hit5
        exact ⟨o, (sb7.2 I nDI).trans (x6.hh _ _ ho), r⟩
      · obtain ⟨o, ho, r⟩ := hL5
        exact ⟨o, (sb7.2 l nDl).trans (x6.hh _ _ ho), r⟩
end
end Mine
end
section
open PySem PySem.W PySem.Calls PyProof.Rows
set_option maxRecDepth 100000
set_option maxHeartbeats 4000000
namespace Mine
section
variable {w : World} {mg mb : Str → Option Value} {A : Around} {E : Value → Shared → Prop} {s : Shared} {g : Heap} {env : Env}
/-- a list comprehension, its loop left to the caller -/
theorem lcomp {elt iter : Expr} {x : Str} {px : Pos} {ifs : List Expr} {rest : List Comprehension} {scope : Scope} {cl : List (Str × Addr)} {pos pos' : Pos} {use : Option (Value → Sem Unit)} {Q : Value → Shared → Prop}
    (hclos : closureFor scope env = pure cl) (hcell : ∀ y ∈ scope.names, y.2 ≠ .cell) (hkind : scope.kind = .function)
    (hnames : ∀ y ∈ scope.names, y.2 = .local → scope.names.lookup y.1 = some .local)
    (h : wpAny (model P0 w) A (eval iter env) (fun xv s₁ => wpAny (model P0 w) A (pyIter xv) (fun it s₂ => ∀ (D C : Nat) h', D = s₂.heap.objs.size → C = D + 1 → Sub s₂.heap h' → h'.objs.size = D + 2 → h'.get? D = some (listOf #[] 0) → h'.Ns C (fun _ => none) →
      ∀ loop, (loop = codeAny (model P0 w) A (.compLoop (.ListComp elt (⟨.Name x px, iter, ifs, 0⟩ :: rest) scope pos) 0 it (.ref D) (compEnvC scope cl C env)) (compPost (model P0 w) A E use Q (.ref D) C) { s₂ with heap := h' }) →
        loop ∧ (loop → wpAny (model P0 w) A (pyIter it) (fun it' s' => it' = it ∧ s' = { s₂ with heap := h' }) (fun _ _ => False) { s₂ with heap := h' })) E s₁) E s)
    (hs : ∀ x, foldedSetIterable iter env x = pure x := by intro _; rfl) :
    wpAny (model P0 w) A (comprehension (.ListComp elt (⟨.Name x px, iter, ifs, 0⟩ :: rest) scope pos) scope env pos' (newList []) false (eval iter env) use) Q E s := by
  refine wpAny_comprehension_free (use := use) rfl hs hclos hkind hnames (wpAny_mono h (fun xv s₁ h₁ => wpAny_mono h₁ (fun it s₂ h₂ => ?_) fun _ _ e => e) fun _ _ e => e)
  refine wpAny_newObj_type (wpAny_newFunctionEnv hcell (by intro y hy; simp at hy) (fun h₁ hns₁ hsb₁ => ?_) hkind)
  dsimp only at hns₁ hsb₁ ⊢
  have sz1 : (s₂.heap.push { cls := .type "list", dict := none, data := .seq ([] : List Value).toArray }).objs.size = s₂.heap.objs.size + 1 := Heap.size_push ..
  have dD : (s₂.heap.push { cls := .type "list", dict := none, data := .seq ([] : List Value).toArray }).get? s₂.heap.objs.size = some (listOf #[] 0) := Heap.get?_push_size _ rfl
  have k1 : Sub s₂.heap (s₂.heap.push { cls := .type "list", dict := none, data := .seq ([] : List Value).toArray }) := fun a o e => Heap.get?_push_of_some _ e
  generalize s₂.heap.push { cls := .type "list", dict := none, data := .seq ([] : List Value).toArray } = H2 at *
  have k2 : Sub H2 h₁ := fun a o e => hsb₁.extBut a o (Nat.ne_of_lt (Heap.lt_size e)) (Heap.get?_push_of_some _ e)
  obtain ⟨lp, self⟩ := h₂ s₂.heap.objs.size H2.objs.size h₁ rfl sz1 (k1.trans k2) (by rw [hsb₁.1, Heap.size_push, sz1]) (k2 _ _ dD) hns₁ _ rfl
  refine codeAny_compStart_list lp (wpAny_mono (self lp) (fun it' s' hx => ?_) fun _ _ z => z.elim)
  obtain ⟨rfl, rfl⟩ := hx
  exact lp
/-- the start of a later clause -/
theorem compStart_at {elt : Expr} {gens : List Comprehension} {scope : Scope} {pos : Pos} {d : Nat} {it acc : Value} {R : Result → Shared → Prop} (has : ((clausesOf (.ListComp elt gens scope pos))[d]?).elim false (·.is_async != 0) = false)
    (h0 : codeAny (model P0 w) A (.compLoop (.ListComp elt gens scope pos) d it acc env) R s) (h : wpAny (model P0 w) A (pyIter it) (fun it' s' => it' = it ∧ s' = s) (fun _ _ => False) s) :
    codeAny (model P0 w) A (.compStart (.ListComp elt gens scope pos) d it acc env) R s := by
  refine codeAny_of_tree ?_
  show wpAny _ A ((compStart (.ListComp elt gens scope pos) d it acc env).onRaise (fun x => do noteFrame x env; standAt theWindowsPlace)) _ _ s
  refine wpAny_notedAt ?_
  unfold compStart
  rw [has]
  simp only [Bool.false_eq_true, if_false]
  refine wpAny_bind (wpAny_askSetting (wpAny_ite ?_))
  have tail : ∀ E', wpAny (model P0 w) A (pyIter it >>= fun y => again (.compLoop (.ListComp elt gens scope pos) d y acc env)) (fun fin s' => match fin with
      | .done f => R (.ok f) s'
      | .again c' => c'.quiet = true ∧ codeAny (model P0 w) A c' R s') E' s := fun E' =>
    wpAny_bind (wpAny_mono h (fun it' s' hx => by
      obtain ⟨rfl, rfl⟩ := hx
      exact wpAny_pure ⟨rfl, h0⟩) fun _ _ z => z.elim)
  split
  · first
      | exact wpAny_bind (wpAny_pure (wpAny_pure (And.intro rfl h0)))
      | exact wpAny_pure (And.intro rfl h0)
  · refine wpAny_bind (wpAny_rule ?_)
    cases (clausesOf (.ListComp elt gens scope pos))[d]? with
    | none => first | exact tail _ | exact wpAny_bind (wpAny_pure (tail _))
    | some g => first | exact wpAny_bind (wpAny_standAt (tail _)) | exact wpAny_bind (wpAny_bind (wpAny_standAt (wpAny_pure (tail _))))
/-- a loop over range(3) of one clause -/
theorem rloop {elt : Expr} {gens : List Comprehension} {scope : Scope} {pos : Pos} {d I : Nat} {acc : Value} {x : Str} {px p : Pos} {body : Sem Unit} {R : Result → Shared → Prop} (hA : A.handled = none)
    (hturn : compTurn (.ListComp elt gens scope pos) d (.ref I) acc env = (standAt p >>= fun _ => pyNext (.ref I) >>= fun r => match r with
      | none => pure (.done .next)
      | some v => letOwnedTupleGo (.Name x px) (.ref I) v >>= fun _ => assign (.Name x px) env v >>= fun _ => body >>= fun _ => again (.compLoop (.ListComp elt gens scope pos) d (.ref I) acc env)))
    (Inv : Nat → Shared → Prop) (hit : ∀ (i : Nat) s, Inv i s → IsRangeIter s.heap I (i : Int) (3 - (i : Int)) 1 ∧ i ≤ 3)
    (step : ∀ (i : Nat) s, i < 3 → Inv i s → ∀ h1 tk, IsRangeIter h1 I ((i + 1 : Nat) : Int) (3 - ((i + 1 : Nat) : Int)) 1 → Heap.SameBut I s.heap h1 → wpAny (model P0 w) A (storeName env x (.int i tk)) (fun _ s2 => wpAny (model P0 w) A body (fun _ s3 => Inv (i + 1) s3) (fun _ _ => False) s2) (fun _ _ => False) { s with heap := h1, toks := tk + 1 })
    (fin : ∀ s, Inv 3 s → ∀ h1, Heap.ExtBut I s.heap h1 → R (.ok .next) { s with heap := h1 }) (h0 : Inv 0 s) : codeAny (model P0 w) A (.compLoop (.ListComp elt gens scope pos) d (.ref I) acc env) R s := by
  refine codeAny_loop rfl (fun k s' => ∃ i, Inv i s' ∧ k = 4 - i) (fun k s' hI => ?_) 4 ⟨0, h0, rfl⟩
  obtain ⟨i, hI, rfl⟩ := hI
  obtain ⟨hr, hi⟩ := hit i s' hI
  show wpAny _ A ((compTurn (.ListComp elt gens scope pos) d (.ref I) acc env).onRaise (fun x => do noteFrame x env; theTreesLotGoes x)) _ _ s'
  refine wpAny_noted ?_
  rw [hturn]
  refine wpAny_bind (wpAny_standAt ?_)
  by_cases h3 : i < 3
  · refine wpAny_bind (wpAny_pyNext_range_item hr (by omega) (fun h1 hr1 hs1 => ?_))
    refine wpAny_bind (wpAny_of_eq (a := ()) (by rfl) ?_)
    have e1 : ((i + 1 : Nat) : Int) = (i : Int) + 1 := by omega
    have e2 : (3 : Int) - ((i : Int) + 1) = 3 - (i : Int) - 1 := by omega
    refine wpAny_bind (wpAny_assign_Name (wpAny_mono (step i s' h3 hI h1 s'.toks (by rw [e1, e2]; exact hr1) hs1) (fun _ s2 h2 => ?_) fun _ _ z => z.elim))
    refine wpAny_bind (wpAny_mono h2 (fun _ s3 h3' => ?_) fun _ _ z => z.elim)
    exact wpAny_pure ⟨rfl, 4 - (i + 1), by omega, i + 1, h3', rfl⟩
  · have hi3 : i = 3 := by omega
    subst hi3
    refine wpAny_bind (wpAny_pyNext_range_end hA hr (by decide) (fun h1 hs1 => ?_))
    exact wpAny_pure (fin s' hI h1 hs1)
end
end Mine
end
section
open PySem PySem.W PySem.Calls PyProof.Rows
set_option maxRecDepth 100000
set_option maxHeartbeats 4000000
namespace Mine
inductive RowEnts (g : Heap) : List Value → List (List Int) → Prop
  | nil : RowEnts g [] []
  | cons {r : Nat} {ns vs nss} : IsInts g r ns → RowEnts g vs nss → RowEnts g (.ref r :: vs) (ns :: nss)
theorem RowEnts.up {g g' : Heap} {vs nss} (h : RowEnts g vs nss) (s : Sub g g') : RowEnts g' vs nss := by
  induction h with
  | nil => exact .nil
  | cons a _ ih => exact .cons (a.up s) ih
theorem RowEnts.len {g : Heap} {vs nss} (h : RowEnts g vs nss) : vs.length = nss.length := by
  induction h with
  | nil => rfl
  | cons a _ ih => simp [ih]
theorem RowEnts.snoc {g : Heap} {vs nss} (h : RowEnts g vs nss) {r : Nat} {ns} (hr : IsInts g r ns) : RowEnts g (vs ++ [.ref r]) (nss ++ [ns]) := by
  induction h with
  | nil => exact .cons hr .nil
  | cons a _ ih => exact .cons a ih
theorem RowEnts.at {g : Heap} {vs nss} (h : RowEnts g vs nss) {i : Nat} {ns : List Int} (e : nss[i]? = some ns) : ∃ r : Nat, vs[i]? = some (.ref r) ∧ IsInts g r ns := by
  induction h generalizing i with
  | nil => simp at e
  | cons a _ ih =>
    cases i with
    | zero => simp at e; subst e; exact ⟨_, rfl, a⟩
    | succ j => simp at e; simpa using ih e
/-- a list of rows -/
def IsRows (g : Heap) (l : Nat) (nss : List (List Int)) : Prop := ∃ vs n, g.get? l = some (listOf vs.toArray n) ∧ RowEnts g vs nss
theorem IsRows.up {g g' : Heap} {l nss} (h : IsRows g l nss) (s : Sub g g') : IsRows g' l nss := by
  obtain ⟨vs, n, e, h⟩ := h
  exact ⟨vs, n, s _ _ e, h.up s⟩
/-- the state inside the comprehension of the rows -/
structure RowSt (g₀ h₀ : Heap) (L : Nat) (m : Str → Option Value) (cl : List (Str × Addr)) (cm : Str → Option Value) (D C : Nat) (mc : Str → Option Value) (dn : List (List Int)) (g h : Heap) : Prop where
  X : LF g₀ h₀ g h L m cl cm
  lst : ∃ vs n, h.get? D = some (listOf vs.toArray n) ∧ RowEnts g vs dn
  ns : h.Ns C mc
  oD : g.get? D = none
  oC : g.get? C = none
structure RowFix (h₀ : Heap) (L : Nat) (cl : List (Str × Addr)) (D C : Nat) : Prop where
  lL : L < D
  DC : C = D + 1
  hD : h₀.objs.size ≤ D
  cD : ∀ n (c : Nat), cl.lookup n = some c → c < D
/-- a place that is none of the comprehension's own -/
structure IOk (h₀ : Heap) (L : Nat) (cl : List (Str × Addr)) (D C I : Nat) : Prop where
  nD : I ≠ D
  nC : I ≠ C
  lo : h₀.objs.size ≤ I
  nL : L ≠ I
  nc : ∀ n, cl.lookup n ≠ some I
structure RRun (D C : Nat) (g h g' h' : Heap) : Prop where
  gg : Sub g g'
  keep : ∀ (a : Nat) o, a ≠ D → a ≠ C → h.get? a = some o → h'.get? a = some o
  new : ∀ (a : Nat) o, h.get? a = some o → g'.get? a = g.get? a
section
variable {g₀ h₀ : Heap} {L : Nat} {m : Str → Option Value} {cl : List (Str × Addr)} {cm : Str → Option Value} {D C : Nat} {mc : Str → Option Value} {dn : List (List Int)} {g h g' h' g'' h'' : Heap}
theorem RowFix.nc (K : RowFix h₀ L cl D C) {a : Nat} (ha : D ≤ a) : ∀ n, cl.lookup n ≠ some a := fun n e => by have := K.cD n a e; omega
theorem RowFix.iok (K : RowFix h₀ L cl D C) {I : Nat} (hI : C < I) : IOk h₀ L cl D C I := by
  have k1 := K.lL
  have k2 := K.DC
  have k3 := K.hD
  exact ⟨by omega, by omega, by omega, by omega, K.nc (by omega)⟩
theorem RowSt.aD (S : RowSt g₀ h₀ L m cl cm D C mc dn g h) : ∃ o, h.get? D = some o := let ⟨_, _, e, _⟩ := S.lst; ⟨_, e⟩
theorem RowSt.aC (S : RowSt g₀ h₀ L m cl cm D C mc dn g h) : ∃ o, h.get? C = some o := let ⟨o, _, _, e, _⟩ := S.ns; ⟨o, e⟩
theorem RRun.refl : RRun D C g h g h := ⟨Sub.refl _, fun _ _ _ _ e => e, fun _ _ _ => rfl⟩
theorem RRun.trans (a : RRun D C g h g' h') (b : RRun D C g' h' g'' h'') (eD : ∃ o, h'.get? D = some o) (eC : ∃ o, h'.get? C = some o) : RRun D C g h g'' h'' := by
  refine ⟨a.gg.trans b.gg, fun x o h1 h2 e => b.keep x o h1 h2 (a.keep x o h1 h2 e), fun x o e => ?_⟩
  refine Eq.trans ?_ (a.new x o e)
  by_cases h1 : x = D
  · obtain ⟨o', e'⟩ := eD; rw [h1]; exact b.new _ _ e'
  · by_cases h2 : x = C
    · obtain ⟨o', e'⟩ := eC; rw [h2]; exact b.new _ _ e'
    · exact b.new x o (a.keep x o h1 h2 e)
theorem RowSt.ext (S : RowSt g₀ h₀ L m cl cm D C mc dn g h) (x : Ext g h g' h') : RowSt g₀ h₀ L m cl cm D C mc dn g' h' := by
  obtain ⟨oD, eD⟩ := S.aD
  obtain ⟨vs, n, e, hr⟩ := S.lst
  exact ⟨S.X.ext x, ⟨vs, n, x.hh _ _ e, hr.up x.gg⟩, S.ns.keeps x.hh, (x.new D (Heap.lt_size eD)).trans S.oD, (x.new C S.ns.lt).trans S.oC⟩
theorem RRun.ofExt (x : Ext g h g' h') : RRun D C g h g' h' := ⟨x.gg, fun a o _ _ e => x.hh a o e, fun a o e => x.new a (Heap.lt_size e)⟩
/-- a change at one place above the comprehension's own -/
theorem RowSt.hole (S : RowSt g₀ h₀ L m cl cm D C mc dn g h) (K : RowFix h₀ L cl D C) {I : Nat} (hI : IOk h₀ L cl D C I) (oI : g.get? I = none) (hs : ∀ (a : Nat) o, a ≠ I → h.get? a = some o → h'.get? a = some o) : RowSt g₀ h₀ L m cl cm D C mc dn g h' := by
  obtain ⟨vs, n, e, hr⟩ := S.lst
  have k1 := K.lL
  have k2 := K.DC
  have k3 := K.hD
  exact ⟨S.X.hole hs hI.lo oI hI.nL hI.nc, ⟨vs, n, hs D _ hI.nD.symm e, hr⟩, S.ns.at fun o e => hs C o hI.nC.symm e, S.oD, S.oC⟩
theorem RowSt.setC (S : RowSt g₀ h₀ L m cl cm D C mc dn g h) (K : RowFix h₀ L cl D C) {mc' : Str → Option Value} (hn : h'.Ns C mc') (hs : Heap.SameBut C h h') : RowSt g₀ h₀ L m cl cm D C mc' dn g h' := by
  obtain ⟨vs, n, e, hr⟩ := S.lst
  have k1 := K.lL
  have k2 := K.DC
  have k3 := K.hD
  exact ⟨S.X.at hs (by omega) S.oC (by omega) (K.nc (by omega)), ⟨vs, n, (hs.2 D (show @Ne Nat D C by omega)).trans e, hr⟩, hn, S.oD, S.oC⟩
theorem RowSt.setD (S : RowSt g₀ h₀ L m cl cm D C mc dn g h) (K : RowFix h₀ L cl D C) {vs' : List Value} {n' : Nat} {dn' : List (List Int)} (hs : Heap.SameBut D h h') (hd : h'.get? D = some (listOf vs'.toArray n')) (hr : RowEnts g vs' dn') : RowSt g₀ h₀ L m cl cm D C mc dn' g h' := by
  have k1 := K.lL
  have k2 := K.DC
  have k3 := K.hD
  exact ⟨S.X.at hs k3 S.oD (by omega) (K.nc (Nat.le_refl _)), ⟨vs', n', hd, hr⟩, S.ns.sameBut hs (show @Ne Nat C D by omega), S.oD, S.oC⟩
end
section
variable {w : World} {A : Around} {s : Shared} {env : Env} {g₀ h₀ : Heap} {L : Nat} {m : Str → Option Value} {cl : List (Str × Addr)} {cm : Str → Option Value} {D C : Nat}
theorem flat_len {row : Nat → List (List Int)} {ρ : Nat} (hρ : ∀ i, (row i).length ≤ ρ) : ∀ i, (((List.range i).map row).flatten).length ≤ i * ρ
  | 0 => by simp
  | i + 1 => by
    have := flat_len hρ i
    have h1 := hρ i
    rw [List.range_succ, List.map_append, List.flatten_append, List.length_append, Nat.add_mul, Nat.one_mul]
    simp only [List.map_cons, List.map_nil, List.flatten_cons, List.flatten_nil, List.append_nil]
    omega
/-- one clause over range(3) of the comprehension of the rows -/
theorem clause {elt : Expr} {gens : List Comprehension} {scope : Scope} {pos : Pos} {d : Nat} {x : Str} {px p : Pos} {body : Sem Unit} {R : Result → Shared → Prop} (K : RowFix h₀ L cl D C) (hA : A.handled = none)
    (hturn : ∀ I, compTurn (.ListComp elt gens scope pos) d (.ref I) (.ref D) env = (standAt p >>= fun _ => pyNext (.ref I) >>= fun r => match r with
      | none => pure (.done .next)
      | some v => letOwnedTupleGo (.Name x px) (.ref I) v >>= fun _ => assign (.Name x px) env v >>= fun _ => body >>= fun _ => again (.compLoop (.ListComp elt gens scope pos) d (.ref I) (.ref D) env)))
    (hloc : env.locals = C) (hkx : env.kindOf x = some .local) (hsc : (env.scope.kind == .class || (env.scope.kind == .module && env.locals != env.globals)) = false)
    (N : Str → Prop) (hxN : ¬ N x) (row : Nat → List (List Int)) {mc : Str → Option Value} (B ρ : Nat) (hρ : ∀ i, (row i).length ≤ ρ)
    (inner : ∀ (i : Nat) (s : Shared) tk g mc1 dn, i < 3 → RowSt g₀ h₀ L m cl cm D C mc1 dn g s.heap → mc1 x = some (.int i tk) → (∀ y, N y → mc1 y = mc y) → dn.length ≤ B + 2 * ρ →
      wpAny (model P0 w) A body (fun _ s' => ∃ g' h' tk' mc', s' = { s with heap := h', toks := tk' } ∧ RowSt g₀ h₀ L m cl cm D C mc' (dn ++ row i) g' h' ∧ RRun D C g s.heap g' h' ∧ ∀ y, N y ∨ y = x → mc' y = mc1 y) (fun _ _ => False) s)
    {I : Nat} {g : Heap} {dn : List (List Int)} (hB : dn.length ≤ B) (S : RowSt g₀ h₀ L m cl cm D C mc dn g s.heap) (hr : IsRangeIter s.heap I 0 3 1) (hI : IOk h₀ L cl D C I) (oI : g.get? I = none)
    (post : ∀ g' h' tk' mc', RowSt g₀ h₀ L m cl cm D C mc' (dn ++ (row 0 ++ (row 1 ++ row 2))) g' h' → Sub g g' → (∀ (a : Nat) o, a ≠ D → a ≠ C → a ≠ I → s.heap.get? a = some o → h'.get? a = some o) → (∀ (a : Nat) o, s.heap.get? a = some o → g'.get? a = g.get? a) → (∀ y, N y → mc' y = mc y) → R (.ok .next) { s with heap := h', toks := tk' }) :
    codeAny (model P0 w) A (.compLoop (.ListComp elt gens scope pos) d (.ref I) (.ref D) env) R s := by
  subst hloc
  have k2 := K.DC
  refine rloop hA (hturn I) (fun i s' => i ≤ 3 ∧ ∃ g' h' tk' mc', s' = { s with heap := h', toks := tk' } ∧ RowSt g₀ h₀ L m cl cm D env.locals mc' (dn ++ ((List.range i).map row).flatten) g' h' ∧ Sub g g' ∧
    (∀ (a : Nat) o, a ≠ D → a ≠ env.locals → a ≠ I → s.heap.get? a = some o → h'.get? a = some o) ∧ (∀ (a : Nat) o, s.heap.get? a = some o → g'.get? a = g.get? a) ∧ (∀ y, N y → mc' y = mc y) ∧ IsRangeIter h' I (i : Int) (3 - (i : Int)) 1 ∧ g'.get? I = none) ?_ ?_ ?_ ?_
  · rintro i s' ⟨hi, g', h', tk', mc', rfl, _, _, _, _, _, hr', _⟩
    exact ⟨hr', hi⟩
  · rintro i s' hi3 ⟨hi, g', h', tk', mc', rfl, S', gg, kp, nw, hN, hr', oI'⟩ h1 tk hr1 hs1
    dsimp only at hs1 ⊢
    have S1 := S'.hole K hI oI' (fun a o ha e => (hs1.2 a ha).trans e)
    refine wpAny_storeName_local hkx S1.ns (fun h2 hn2 hs2 => ?_) hsc
    dsimp only at hs2 ⊢
    have S2 := S1.setC K hn2 hs2
    refine wpAny_mono (inner i _ tk g' _ _ hi3 S2 (by simp) (fun y hy => (if_neg (fun q => hxN (by rw [← q]; exact hy))).trans (hN y hy)) (by
      have := flat_len hρ i
      have h2i : i * ρ ≤ 2 * ρ := Nat.mul_le_mul_right _ (by omega)
      rw [List.length_append]; omega)) (fun _ s3 hx => ?_) fun _ _ z => z
    obtain ⟨g3, h3, tk3, mc3, rfl, S3, run, hm3⟩ := hx
    have nIC : @Ne Nat I env.locals := hI.nC
    have nID : @Ne Nat I D := hI.nD
    have hr2 : IsRangeIter h2 I ((i + 1 : Nat) : Int) (3 - ((i + 1 : Nat) : Int)) 1 := (hs2.2 I nIC).trans hr1
    refine ⟨by omega, g3, h3, tk3, mc3, rfl, ?_, gg.trans run.gg, fun a o h1' h2' h3' e => run.keep a o h1' h2' ((hs2.2 a h2').trans ((hs1.2 a h3').trans (kp a o h1' h2' h3' e))), fun a o e => ?_, fun y hy => ?_, run.keep I _ nID nIC hr2, ?_⟩
    · rw [List.range_succ, List.map_append, List.flatten_append]
      simpa using S3
    · refine Eq.trans ?_ (nw a o e)
      by_cases q1 : a = D
      · obtain ⟨o', e'⟩ := S2.aD; rw [q1]; exact run.new _ _ e'
      · by_cases q2 : a = env.locals
        · obtain ⟨o', e'⟩ := S2.aC; rw [q2]; exact run.new _ _ e'
        · by_cases q3 : a = I
          · rw [q3]; exact run.new _ _ hr2
          · exact run.new a o ((hs2.2 a q2).trans ((hs1.2 a q3).trans (kp a o q1 q2 q3 e)))
    · have hyx : ¬ y = x := fun q => hxN (by rw [← q]; exact hy)
      rw [hm3 y (.inl hy)]
      exact (if_neg hyx).trans (hN y hy)
    · exact (run.new I _ hr2).trans oI'
  · rintro s' ⟨hi, g', h', tk', mc', rfl, S', gg, kp, nw, hN, hr', oI'⟩ h1 hs1
    dsimp only at hs1 ⊢
    have S1 := S'.hole K hI oI' hs1
    refine post g' h1 tk' mc' ?_ gg (fun a o q1 q2 q3 e => hs1 a o q3 (kp a o q1 q2 q3 e)) nw hN
    have e3 : ((List.range 3).map row).flatten = row 0 ++ (row 1 ++ row 2) := by simp [List.range_succ]
    rw [e3] at S1
    exact S1
  · refine ⟨Nat.zero_le _, g, s.heap, s.toks, mc, rfl, ?_, Sub.refl _, fun _ _ _ _ _ e => e, fun _ _ _ => rfl, fun _ _ => rfl, hr, oI⟩
    simpa using S
end
end Mine
end
section
open PySem PySem.W PySem.Calls PyProof.Rows
set_option maxRecDepth 100000
set_option maxHeartbeats 4000000
namespace Mine
theorem ct0 (elt t1 i1 t2 i2 t3 i3 : Expr) (scope : Scope) (pos : Pos) (it acc : Value) (env : Env) :
    compTurn (.ListComp elt [⟨t1, i1, [], 0⟩, ⟨t2, i2, [], 0⟩, ⟨t3, i3, [], 0⟩] scope pos) 0 it acc env = (standAt i1.pos >>= fun _ => pyNext it >>= fun r => match r with
      | none => pure (.done .next)
      | some v => letOwnedTupleGo t1 it v >>= fun _ => assign t1 env v >>= fun _ => (eval i2 env >>= fun x => standAt i2.pos >>= fun _ => foldedSetIterable i2 env x >>= fun x => holding [x] (pyIter x) >>= fun y => runOwn (.compStart (.ListComp elt [⟨t1, i1, [], 0⟩, ⟨t2, i2, [], 0⟩, ⟨t3, i3, [], 0⟩] scope pos) 1 y acc env) env >>= fun _ => pure ()) >>= fun _ =>
          again (.compLoop (.ListComp elt [⟨t1, i1, [], 0⟩, ⟨t2, i2, [], 0⟩, ⟨t3, i3, [], 0⟩] scope pos) 0 it acc env)) := by
  first
    | rfl
    | (simp only [bind_assoc, pure_bind]; rfl)
theorem ct1 (elt t1 i1 t2 i2 t3 i3 : Expr) (scope : Scope) (pos : Pos) (it acc : Value) (env : Env) :
    compTurn (.ListComp elt [⟨t1, i1, [], 0⟩, ⟨t2, i2, [], 0⟩, ⟨t3, i3, [], 0⟩] scope pos) 1 it acc env = (standAt i2.pos >>= fun _ => pyNext it >>= fun r => match r with
      | none => pure (.done .next)
      | some v => letOwnedTupleGo t2 it v >>= fun _ => assign t2 env v >>= fun _ => (eval i3 env >>= fun x => standAt i3.pos >>= fun _ => foldedSetIterable i3 env x >>= fun x => holding [x] (pyIter x) >>= fun y => runOwn (.compStart (.ListComp elt [⟨t1, i1, [], 0⟩, ⟨t2, i2, [], 0⟩, ⟨t3, i3, [], 0⟩] scope pos) 2 y acc env) env >>= fun _ => pure ()) >>= fun _ =>
          again (.compLoop (.ListComp elt [⟨t1, i1, [], 0⟩, ⟨t2, i2, [], 0⟩, ⟨t3, i3, [], 0⟩] scope pos) 1 it acc env)) := by
  first
    | rfl
    | (simp only [bind_assoc, pure_bind]; rfl)
theorem ct2 (elt t1 i1 t2 i2 t3 i3 : Expr) (scope : Scope) (pos : Pos) (it acc : Value) (env : Env) :
    compTurn (.ListComp elt [⟨t1, i1, [], 0⟩, ⟨t2, i2, [], 0⟩, ⟨t3, i3, [], 0⟩] scope pos) 2 it acc env = (standAt i3.pos >>= fun _ => pyNext it >>= fun r => match r with
      | none => pure (.done .next)
      | some v => letOwnedTupleGo t3 it v >>= fun _ => assign t3 env v >>= fun _ => (eval elt env >>= fun x => call (.builtin "list.append") [acc, x] >>= fun _ => pure ()) >>= fun _ =>
          again (.compLoop (.ListComp elt [⟨t1, i1, [], 0⟩, ⟨t2, i2, [], 0⟩, ⟨t3, i3, [], 0⟩] scope pos) 2 it acc env)) := by
  first
    | rfl
    | (simp only [bind_assoc, pure_bind]; rfl)
def r3 (a b c : Nat) : List (List Int) := [[(a : Int), (b : Int), (c : Int)]]
def r2 (a b : Nat) : List (List Int) := r3 a b 0 ++ (r3 a b 1 ++ r3 a b 2)
def r1 (a : Nat) : List (List Int) := r2 a 0 ++ (r2 a 1 ++ r2 a 2)
/-- all the rows -/
def rowsL : List (List Int) := r1 0 ++ (r1 1 ++ r1 2)
section
variable {w : World} {mg mb : Str → Option Value} {A : Around} {s : Shared} {env : Env} {g₀ h₀ : Heap} {L : Nat} {m : Str → Option Value} {cl : List (Str × Addr)} {cm : Str → Option Value} {D C : Nat}
/-- the start of a clause over range(3) -/
theorem enter {elt : Expr} {gens : List Comprehension} {scope : Scope} {pos q2 q3 q4 : Pos} {kk d : Nat} {Q : Unit → Shared → Prop} {g : Heap} {mc : Str → Option Value} {dn : List (List Int)} (G : Gd w mg mb g₀) (K : RowFix h₀ L cl D C)
    (hk : env.scope.kind = .function) (kr : env.kindOf "range" = some .globalImplicit) (hG : env.globals = mainGlobals) (hB : env.builtins = builtinsNs)
    (has : ((clausesOf (.ListComp elt gens scope pos))[d]?).elim false (·.is_async != 0) = false)
    (S : RowSt g₀ h₀ L m cl cm D C mc dn g s.heap)
    (h : ∀ (I : Nat) h1 tk, RowSt g₀ h₀ L m cl cm D C mc dn g h1 → Sub s.heap h1 → IsRangeIter h1 I 0 3 1 → C < I → g.get? I = none → (∀ o, s.heap.get? I = some o → False) →
      codeAny (model P0 w) A (.compLoop (.ListComp elt gens scope pos) d (.ref I) (.ref D) env) (fun r s' => r = .ok .next ∧ Q () s') { s with heap := h1, toks := tk }) :
    wpAny (model P0 w) A (eval (.Call (.Name "range" q2) [.Constant (.int 3) kk q3] [] q4) env >>= fun x => standAt q4 >>= fun _ => foldedSetIterable (.Call (.Name "range" q2) [.Constant (.int 3) kk q3] [] q4) env x >>= fun x =>
      holding [x] (pyIter x) >>= fun y => runOwn (.compStart (.ListComp elt gens scope pos) d y (.ref D) env) env >>= fun _ => pure ()) Q (fun _ _ => False) s := by
  have G' := G.up S.X.F.x.gg
  refine wpAny_bind ?_
  refine Call_Name rfl (nameB (v := .type "range") G' S.X.F.x.gh (by k_is) (by boot_fast) (by decide) ?_ hG hB hk kr)
  refine callWith_type1 (spliced_more (wpAny_Constant_int (spliced_none ?_)))
  refine call_range_1 ?_
  refine wpAny_bind (wpAny_standAt (wpAny_bind (wpAny_pure (wpAny_bind (wpAny_holding ?_)))))
  have k1 : Sub s.heap (s.heap.push { cls := .type "range", data := .fields #[.int 0 (s.toks + 1), .int 3 s.toks, .int 1 (s.toks + 1 + 1)] }) := fun a o e => Heap.get?_push_of_some _ e
  have sz1 : (s.heap.push { cls := .type "range", data := .fields #[.int 0 (s.toks + 1), .int 3 s.toks, .int 1 (s.toks + 1 + 1)] }).objs.size = s.heap.objs.size + 1 := Heap.size_push ..
  have hR : IsRange (s.heap.push { cls := .type "range", data := .fields #[.int 0 (s.toks + 1), .int 3 s.toks, .int 1 (s.toks + 1 + 1)] }) s.heap.objs.size 0 3 1 (s.toks + 1) s.toks (s.toks + 1 + 1) := IsRange.new _ _ _ _ _ _ _
  dsimp only
  generalize s.heap.push { cls := .type "range", data := .fields #[.int 0 (s.toks + 1), .int 3 s.toks, .int 1 (s.toks + 1 + 1)] } = h1 at *
  refine wpAny_pyIter_range hR (by decide) ?_
  dsimp only
  have k2 : Sub h1 (h1.push { cls := .type "range_iterator", data := .fields #[rawInt 0, rawInt (Builtin.Range.rangeSize 0 3 1), rawInt 1] }) := fun a o e => Heap.get?_push_of_some _ e
  have sz2 : (h1.push { cls := .type "range_iterator", data := .fields #[rawInt 0, rawInt (Builtin.Range.rangeSize 0 3 1), rawInt 1] }).objs.size = h1.objs.size + 1 := Heap.size_push ..
  have hI : IsRangeIter (h1.push { cls := .type "range_iterator", data := .fields #[rawInt 0, rawInt (Builtin.Range.rangeSize 0 3 1), rawInt 1] }) h1.objs.size 0 3 1 := Heap.get?_push_size _ rfl
  generalize h1.push { cls := .type "range_iterator", data := .fields #[rawInt 0, rawInt (Builtin.Range.rangeSize 0 3 1), rawInt 1] } = h2 at *
  have S2 := S.ext (Ext.ofSub S.X.F.x.gh (k1.trans k2) (by omega))
  have lC : @LT.lt Nat _ C s.heap.objs.size := S.ns.lt
  have := h h1.objs.size h2 (s.toks + 1 + 1 + 1) S2 (k1.trans k2) hI (by omega) (S.X.F.x.gh.none (by omega)) (fun o e => by have : @LT.lt Nat _ h1.objs.size s.heap.objs.size := Heap.lt_size e; omega)
  refine wpAny_bind (wpAny_runOwn (codeAny_mono (compStart_at has this (wpAny_pyIter_rangeiter hI ⟨rfl, rfl⟩)) (fun r s' hx => ?_)))
  obtain ⟨rfl, hq⟩ := hx
  exact wpAny_pure hq
theorem rows_run {p1 p2 p3 p4 a1 a2 a3 a4 b1 b2 b3 b4 c1 c2 c3 c4 pos : Pos} {ka kb kc : Nat} {scope : Scope} {R : Result → Shared → Prop} {I : Nat} {g : Heap} {mc : Str → Option Value} (G : Gd w mg mb g₀) (K : RowFix h₀ L cl D C) (hA : A.handled = none)
    (hloc : env.locals = C) (hk : env.scope.kind = .function) (ea : env.kindOf "a" = some .local) (eb : env.kindOf "b" = some .local) (ec : env.kindOf "c" = some .local) (kr : env.kindOf "range" = some .globalImplicit) (hG : env.globals = mainGlobals) (hB : env.builtins = builtinsNs)
    (S : RowSt g₀ h₀ L m cl cm D C mc [] g s.heap) (hr : IsRangeIter s.heap I 0 3 1) (hI : IOk h₀ L cl D C I) (oI : g.get? I = none)
    (post : ∀ g' h' tk' mc', RowSt g₀ h₀ L m cl cm D C mc' rowsL g' h' → Sub g g' → (∀ (a : Nat) o, s.heap.get? a = some o → g'.get? a = g.get? a) → R (.ok .next) { s with heap := h', toks := tk' }) :
    codeAny (model P0 w) A (.compLoop (.ListComp (.List [.Name "a" p1, .Name "b" p2, .Name "c" p3] p4) [⟨.Name "a" a1, .Call (.Name "range" a2) [.Constant (.int 3) ka a3] [] a4, [], 0⟩, ⟨.Name "b" b1, .Call (.Name "range" b2) [.Constant (.int 3) kb b3] [] b4, [], 0⟩, ⟨.Name "c" c1, .Call (.Name "range" c2) [.Constant (.int 3) kc c3] [] c4, [], 0⟩] scope pos) 0 (.ref I) (.ref D) env) R s := by
  have hsc : (env.scope.kind == .class || (env.scope.kind == .module && env.locals != env.globals)) = false := by rw [hk]; rfl
  refine clause (x := "a") (body := (eval (.Call (.Name "range" b2) [.Constant (.int 3) kb b3] [] b4) env >>= fun x => standAt b4 >>= fun _ => foldedSetIterable (.Call (.Name "range" b2) [.Constant (.int 3) kb b3] [] b4) env x >>= fun x =>
      holding [x] (pyIter x) >>= fun y => runOwn (.compStart _ 1 y (.ref D) env) env >>= fun _ => pure ())) K hA (fun I => ct0 _ _ _ _ _ _ _ _ _ _ _ _) hloc ea hsc (fun _ => False) id r1 0 9 (fun i => Nat.le_refl _) ?_ (Nat.le_refl _) S hr hI oI (fun g' h' tk' mc' S' gg kp nw hN => post g' h' tk' mc' S' gg nw)
  intro i s tk g mca dn hi S hma _ hl1
  refine enter G K hk kr hG hB rfl S (fun I1 h1 tk1 S1 k1 hr1 hI1 oI1 al1 => ?_)
  refine clause (s := { s with heap := h1, toks := tk1 }) (x := "b") (body := (eval (.Call (.Name "range" c2) [.Constant (.int 3) kc c3] [] c4) env >>= fun x => standAt c4 >>= fun _ => foldedSetIterable (.Call (.Name "range" c2) [.Constant (.int 3) kc c3] [] c4) env x >>= fun x =>
      holding [x] (pyIter x) >>= fun y => runOwn (.compStart _ 2 y (.ref D) env) env >>= fun _ => pure ())) K hA (fun I => ct1 _ _ _ _ _ _ _ _ _ _ _ _) hloc eb hsc (fun y => y = "a") (by decide) (r2 i) 18 3 (fun i => Nat.le_refl _) ?_ hl1 S1 hr1 (K.iok hI1) oI1 (fun g' h' tk' mc' S' gg kp nw hN => ⟨rfl, g', h', tk', mc', rfl, S', ⟨gg, fun a o h1' h2' e => kp a o h1' h2' (fun q => al1 o (q ▸ e)) (k1 a o e), fun a o e => nw a o (k1 a o e)⟩, fun y hy => ?_⟩)
  · intro j s tkb g mcb dn hj S hmb hNb hl2
    refine enter G K hk kr hG hB rfl S (fun I2 h2 tk2 S2 k2 hr2 hI2 oI2 al2 => ?_)
    refine clause (s := { s with heap := h2, toks := tk2 }) (x := "c") (body := (eval (.List [.Name "a" p1, .Name "b" p2, .Name "c" p3] p4) env >>= fun x => call (.builtin "list.append") [.ref D, x] >>= fun _ => pure ())) K hA (fun I => ct2 _ _ _ _ _ _ _ _ _ _ _ _) hloc ec hsc (fun y => y = "a" ∨ y = "b") (by decide) (r3 i j) 24 1 (fun i => Nat.le_refl _) ?_ hl2 S2 hr2 (K.iok hI2) oI2 (fun g' h' tk' mc' S' gg kp nw hN => ⟨rfl, g', h', tk', mc', rfl, S', ⟨gg, fun a o h1' h2' e => kp a o h1' h2' (fun q => al2 o (q ▸ e)) (k2 a o e), fun a o e => nw a o (k2 a o e)⟩, fun y hy => hN y hy⟩)
    intro k s tkc g mcc dn hk3 S hmc hNc hl3
    have va : mcc "a" = some (.int i tk) := (hNc "a" (.inl rfl)).trans ((hNb "a" rfl).trans hma)
    have vb : mcc "b" = some (.int j tkb) := (hNc "b" (.inr rfl)).trans hmb
    refine wpAny_bind (wpAny_List (spliced_more (ldN S.ns va (spliced_more (ldN S.ns vb (spliced_more (ldN S.ns hmc (spliced_none ⟨by simp [sizeLine_eq], ?_⟩) hloc hk ec) ) hloc hk eb)) hloc hk ea)))
    generalize ho : ({ cls := .type "list", data := .seq [Value.int i tk, .int j tkb, .int k tkc].toArray } : Obj) = o1
    have S3 := S.ext (Ext.ofSub (h' := s.heap.push o1) S.X.F.x.gh (fun a o e => Heap.get?_push_of_some _ e) (by rw [Heap.size_push]; omega))
    have dr : (s.heap.push o1).get? s.heap.objs.size = some o1 := Heap.get?_push_size _ (by rw [← ho]; rfl)
    have sz1 : (s.heap.push o1).objs.size = s.heap.objs.size + 1 := Heap.size_push ..
    have kp1 : Sub s.heap (s.heap.push o1) := fun a o e => Heap.get?_push_of_some _ e
    have k1 := K.lL
    have k2 := K.DC
    have k3 := K.hD
    have lC : @LT.lt Nat _ C s.heap.objs.size := S.ns.lt
    generalize s.heap.push o1 = h4 at *
    obtain ⟨g4, X4, sub4, yes4, no4⟩ := S3.X.freeze (fun a => a = s.heap.objs.size) (fun a ha => by rw [ha]; omega) (fun q => by have q' : @Eq Nat L _ := q; omega) (fun n c e q => by have := K.cD n c e; have q' : @Eq Nat c s.heap.objs.size := q; omega)
    obtain ⟨vs, n, eD, hre⟩ := S3.lst
    have oD4 : g4.get? D = none := (no4 D (fun q => by have q' : @Eq Nat D s.heap.objs.size := q; omega)).trans S3.oD
    have oC4 : g4.get? C = none := (no4 C (fun q => by have q' : @Eq Nat C s.heap.objs.size := q; omega)).trans S3.oC
    have S4 : RowSt g₀ h₀ L m cl cm D C mcc dn g4 h4 := ⟨X4, ⟨vs, n, eD, hre.up sub4⟩, S3.ns, oD4, oC4⟩
    have irow : IsInts g4 s.heap.objs.size [(i : Int), (j : Int), (k : Int)] := ⟨_, ⟨o1, (yes4 _ rfl).trans dr, by rw [← ho], 0, by rw [← ho]⟩, .cons _ _ (.cons _ _ (.cons _ _ .nil))⟩
    refine wpAny_bind (append_at' eD (by rw [hre.len]; omega) (fun h5 sb5 hd5 => wpAny_pure ?_))
    dsimp only at sb5 ⊢
    have S5 := S4.setD K sb5 hd5 ((hre.up sub4).snoc irow)
    refine ⟨g4, h5, _, mcc, rfl, S5, ⟨sub4, fun a o h1 h2 e => (sb5.2 a h1).trans (kp1 a o e), fun a o e => no4 a (fun q => ?_)⟩, fun _ _ => rfl⟩
    have q' : @Eq Nat a s.heap.objs.size := q
    have : @LT.lt Nat _ a s.heap.objs.size := Heap.lt_size e
    omega
  · rcases hy with hy | hy
    · exact hy.elim
    · exact hN y hy
end
end Mine
end
section
open PySem PySem.W PySem.Calls PyProof.Rows
set_option maxRecDepth 100000
set_option maxHeartbeats 4000000
namespace Mine
theorem filter_snoc {α : Type} (p : α → Bool) (l : List α) (x : α) : (l ++ [x]).filter p = if p x then l.filter p ++ [x] else l.filter p := by
  rw [List.filter_append]
  cases h : p x <;> simp [h]
section
variable {w : World} {mg mb : Str → Option Value} {A : Around} {E : Value → Shared → Prop} {s : Shared} {g : Heap} {env : Env}
theorem filtcomp {iter c : Expr} {px epos : Pos} {scope : Scope} {cl : List (Str × Addr)} {pos pos' : Pos} {use : Option (Value → Sem Unit)} {g₀ h₀ : Heap} {L : Nat} {m : Str → Option Value} {cl' : List (Str × Addr)} {cm : Str → Option Value} {Q : Value → Shared → Prop} (nss : List (List Int)) (keep : List Int → Bool) {l : Nat}
    (G : Gd w mg mb g) (X : LF g₀ h₀ g s.heap L m cl' cm) (hA : A.handled = none) (hclos : closureFor scope env = pure cl) (hcell : ∀ y ∈ scope.names, y.2 ≠ .cell) (hkind : scope.kind = .function)
    (hnames : ∀ y ∈ scope.names, y.2 = .local → scope.names.lookup y.1 = some .local) (hxk : scope.names.lookup ("given" : Str) = some NameKind.local) (hlen : nss.length ≤ 100) (hf : ∀ x, foldedSetIterable iter env x = pure x)
    (hl : IsRows g l nss)
    (hiter : ∀ Q' : Value → Shared → Prop, Q' (.ref l) s → wpAny (model P0 w) A (eval iter env) Q' E s)
    (htest : ∀ (C : Nat) s' g' m' (r : Nat) ns E', LF g₀ h₀ g' s'.heap L m cl' cm → Sub g g' → s'.heap.Ns C m' → m' "given" = some (.ref r) → IsInts g' r ns → ns ∈ nss → ∀ Q' : Bool → Shared → Prop, (∀ g'' h' tk, Ext g' s'.heap g'' h' → Q' (keep ns) { s' with heap := h', toks := tk }) →
      wpAny (model P0 w) A (isTrue c (compEnvC scope cl C env) (eval c (compEnvC scope cl C env))) Q' E' s')
    (h : ∀ g' h' tk (D C : Nat) mC, LF g₀ h₀ g' h' L m cl' cm → Sub g g' → (∃ vs n, h'.get? D = some (listOf vs.toArray n) ∧ RowEnts g' vs (nss.filter keep)) → g'.get? D = none → g'.get? C = none → h'.Ns C mC → s.heap.objs.size ≤ D → C = D + 1 →
      compPost (model P0 w) A E use Q (.ref D) C (.ok .next) { s with heap := h', toks := tk }) :
    wpAny (model P0 w) A (comprehension (.ListComp (.Name "given" epos) [⟨.Name "given" px, iter, [c], 0⟩] scope pos) scope env pos' (newList []) false (eval iter env) use) Q E s := by
  refine lcomp hclos hcell hkind hnames (hiter _ ?_) hf
  obtain ⟨vs, nv, eL, hRe⟩ := hl
  have hL1 := X.F.x.gh _ _ eL
  refine wpAny_pyIter_list ⟨_, hL1, rfl, _, rfl⟩ ?_
  dsimp only
  have k2 : Sub s.heap (s.heap.push { cls := .type "list_iterator", data := .fields #[.ref l, .int 0 0] }) := fun a o e => Heap.get?_push_of_some _ e
  have sz2 : (s.heap.push { cls := .type "list_iterator", data := .fields #[.ref l, .int 0 0] }).objs.size = s.heap.objs.size + 1 := Heap.size_push ..
  have dI : (s.heap.push { cls := .type "list_iterator", data := .fields #[.ref l, .int 0 0] }).IsListIter s.heap.objs.size l 0 := ⟨_, Heap.get?_push_size _ rfl, rfl, rfl⟩
  have X2 := X.keeps k2 (by omega)
  have gI : g.get? s.heap.objs.size = none := X.F.x.gh.none (Nat.le_refl _)
  have Llt : @LT.lt Nat _ L s.heap.objs.size := X.F.lt
  have cc : ∀ n c', cl'.lookup n = some c' → @LT.lt Nat _ c' s.heap.objs.size := fun n c' e => (X.cell n c' e).lt
  have hs0 := X.F.x.sz
  generalize s.heap.push { cls := .type "list_iterator", data := .fields #[.ref l, .int 0 0] } = h2 at *
  generalize hIe : s.heap.objs.size = I at *
  intro D C h3 hDe hCe k3 sz3 dD hC loop hloop
  subst hloop
  have X3 := X2.keeps k3 (by omega)
  have gD : g.get? D = none := X2.F.x.gh.none (by omega)
  have gC : g.get? C = none := X2.F.x.gh.none (by omega)
  have dI3 : h3.IsListIter I l 0 := let ⟨o, ho, r⟩ := dI; ⟨o, k3 _ _ ho, r⟩
  have own := X.F.own
  have nD : ∀ n, cl'.lookup n ≠ some D := fun n e => by have := cc n D e; omega
  have nC : ∀ n, cl'.lookup n ≠ some C := fun n e => by have := cc n C e; omega
  have nI : ∀ n, cl'.lookup n ≠ some I := fun n e => by have := cc n I e; omega
  have hxl : ∀ C, (compEnvC scope cl C env).kindOf "given" = some .local := fun C => lookup_relabel_local hxk
  have hsc : ((compEnvC scope cl C env).scope.kind == .class || ((compEnvC scope cl C env).scope.kind == .module && (compEnvC scope cl C env).locals != (compEnvC scope cl C env).globals)) = false := by simp [compEnvC, relabel, hkind]
  have hkd : (compEnvC scope cl C env).scope.kind = .function := hkind
  have hvl := hRe.len
  refine ⟨?_, fun _ => wpAny_pyIter_listiter dI3 ⟨rfl, rfl⟩⟩
  refine codeAny_compLoop_tests (fun n s' => ∃ (i : Nat) (h' : Heap) (tk : Tok) (g' : Heap) (m' : Str → Option Value) (us : List Value) (nu : Nat), s' = { s with heap := h', toks := tk } ∧ LF g₀ h₀ g' h' L m cl' cm ∧ Sub g g' ∧ h'.get? D = some (listOf us.toArray nu) ∧ RowEnts g' us ((nss.take i).filter keep) ∧ h'.Ns C m' ∧
    h'.IsListIter I l i ∧ g'.get? D = none ∧ g'.get? C = none ∧ g'.get? I = none ∧ i ≤ nss.length ∧ n = nss.length + 1 - i) ?_ (nss.length + 1)
    ⟨0, h3, _, g, _, [], 0, rfl, X3, Sub.refl _, dD, .nil, hC, dI3, gD, gC, gI, Nat.zero_le _, rfl⟩
  rintro n s' ⟨i, h', tk, g', m', us, nu, rfl, X', sub, hDl, hE, hC', hit, oD, oC, oI, hi, rfl⟩
  have eL' : h'.IsList l vs.toArray := ⟨_, X'.F.x.gh _ _ (sub _ _ eL), rfl, _, rfl⟩
  cases hx : nss[i]? with
  | none =>
    have hin : i = nss.length := by have : nss.length ≤ i := by simpa using hx
                                    omega
    refine wpAny_pyNext_list_end hA hit eL' (by rw [List.getElem?_toArray]; exact List.getElem?_eq_none (by omega)) (fun h4 hx4 => ?_)
    have X4 := X'.hole (h' := h4) (D := I) hx4 (by omega) oI (by omega) nI
    have hC4 : h4.Ns C m' := hC'.at fun o e => hx4 C o (show @Ne Nat C I by omega) e
    have hD4 := hx4 D _ (show @Ne Nat D I by omega) hDl
    rw [hin, List.take_length] at hE
    exact h g' h4 _ D C m' X4 sub ⟨us, nu, hD4, hE⟩ oD oC hC4 (by omega) hCe
  | some ns =>
    have hlt : i < nss.length := (List.getElem?_eq_some_iff.mp hx).1
    obtain ⟨r, hvr, hrow⟩ := hRe.at hx
    have hmem := List.mem_of_getElem? hx
    refine wpAny_pyNext_list_item hit eL' (by rw [List.getElem?_toArray]; exact hvr) (fun h4 hit4 sb4 => ?_)
    dsimp only at sb4 ⊢
    have X4 := X'.at sb4 (by omega) oI (by omega) nI
    have nIC : @Ne Nat C I := by omega
    have nID : @Ne Nat D I := by omega
    have nCD : @Ne Nat D C := by omega
    have nCI : @Ne Nat I C := by omega
    have nDC : @Ne Nat C D := by omega
    have nDI : @Ne Nat I D := by omega
    refine wpAny_assign_Name (stN (env := compEnvC scope cl C env) (hC'.sameBut sb4 nIC) (fun h5 hC5 sb5 => ?_) rfl hsc (hxl C))
    dsimp only at sb5 ⊢
    have X5 := X4.at sb5 (by omega) oC (by omega) nC
    have hD5 := (sb5.2 D nCD).trans ((sb4.2 D nID).trans hDl)
    have hit5 : h5.IsListIter I l (i + 1) := let ⟨o, ho, r⟩ := hit4; ⟨o, (sb5.2 I nCI).trans ho, r⟩
    have tk1 : nss.take (i + 1) = nss.take i ++ [ns] := by rw [List.take_add_one, hx]; rfl
    refine wpAny_tests_one ?_
    refine htest C _ g' _ r ns _ X5 sub hC5 rfl (hrow.up sub) hmem _ (fun g6 h6 tk6 x6 => ?_)
    dsimp only at x6 ⊢
    have X6 := X5.ext x6
    have ltD : @LT.lt Nat _ D h5.objs.size := Heap.lt_size hD5
    have ltI : @LT.lt Nat _ I h5.objs.size := let ⟨o, ho, _⟩ := hit5; Heap.lt_size ho
    have oD6 := (x6.new D ltD).trans oD
    have oC6 := (x6.new C hC5.lt).trans oC
    have oI6 := (x6.new I ltI).trans oI
    have hD6 := x6.hh _ _ hD5
    have hit6 : h6.IsListIter I l (i + 1) := let ⟨o, ho, r⟩ := hit5; ⟨o, x6.hh _ _ ho, r⟩
    cases hp : keep ns with
    | false =>
      simp only [Bool.false_eq_true, if_false]
      refine ⟨nss.length + 1 - (i + 1), by omega, i + 1, h6, _, g6, _, us, nu, rfl, X6, sub.trans x6.gg, hD6, ?_, hC5.keeps x6.hh, hit6, oD6, oC6, oI6, hlt, rfl⟩
      rw [tk1, filter_snoc, hp]
      exact hE.up x6.gg
    | true =>
      simp only [if_true]
      refine ldN (env := compEnvC scope cl C env) (hC5.keeps x6.hh) rfl ?_ rfl hkd (hxl C)
      have hul : us.length = ((nss.take i).filter keep).length := hE.len
      have hul2 : ((nss.take i).filter keep).length ≤ nss.length := Nat.le_trans (List.length_filter_le _ _) (by rw [List.length_take]; omega)
      refine append_at' hD6 (by omega) (fun h7 sb7 hd7 => ?_)
      dsimp only at sb7 ⊢
      have X7 := X6.at sb7 (by omega) oD6 (by omega) nD
      refine ⟨nss.length + 1 - (i + 1), by omega, i + 1, h7, _, g6, _, _, _, rfl, X7, sub.trans x6.gg, hd7, ?_, (hC5.keeps x6.hh).sameBut sb7 nDC, ?_, oD6, oC6, oI6, hlt, rfl⟩
      · rw [tk1, filter_snoc, hp]
        exact (hE.up x6.gg).snoc ((hrow.up sub).up x6.gg)
      · obtain ⟨o, ho, r⟩ := hit6
        exact ⟨o, (sb7.2 I nDI).trans ho, r⟩
end
end Mine
end
section
open PySem PySem.W PySem.Calls PyProof.Rows
set_option maxRecDepth 100000
set_option maxHeartbeats 4000000
namespace Mine
/-- a part of the law -/
def PartOk : Part → Prop
  | .var t => t < 3
  | .num i => 0 ≤ i ∧ i < 3
def Sat (σ : Sig) (r : List Int) : Prop := ∀ x ∈ σ, r.getD x.1 0 = x.2.val r
theorem look_mem {σ : Sig} {p q : Part} (h : look σ p = some q) : ∃ t, p = .var t ∧ (t, q) ∈ σ := by
  cases p with
  | num _ => cases h
  | var t =>
    simp only [look, Option.map_eq_some_iff] at h
    obtain ⟨x, hx, rfl⟩ := h
    have e := List.find?_some hx
    have hm := List.mem_of_find?_eq_some hx
    have e' : x.1 = t := by simpa using e
    exact ⟨t, rfl, by rw [← e']; exact hm⟩
theorem walk_val {σ : Sig} {r : List Int} (h : Sat σ r) : ∀ n p, (walkF σ n p).val r = p.val r := by
  intro n
  induction n with
  | zero => intro p; rfl
  | succ n ih =>
    intro p
    rw [walkF]
    split
    · rfl
    · rename_i q e
      obtain ⟨t, rfl, hm⟩ := look_mem e
      rw [ih]
      exact (h _ hm).symm
theorem sat_snoc {σ : Sig} {t : Nat} {q : Part} {r : List Int} : Sat (σ ++ [(t, q)]) r ↔ Sat σ r ∧ r.getD t 0 = q.val r := by
  constructor
  · intro h
    exact ⟨fun x hx => h x (List.mem_append.mpr (.inl hx)), h (t, q) (List.mem_append.mpr (.inr (List.mem_singleton.mpr rfl)))⟩
  · rintro ⟨h1, h2⟩ x hx
    rcases List.mem_append.mp hx with hx | hx
    · exact h1 x hx
    · rw [List.mem_singleton.mp hx]; exact h2
theorem step_none {σ : Sig} {p q : Part} (h : stepF σ p q = none) {r : List Int} (hs : Sat σ r) : p.val r ≠ q.val r := by
  unfold stepF at h
  rw [← walk_val hs 8 p, ← walk_val hs 8 q]
  cases hp : walkF σ 8 p <;> cases hq : walkF σ 8 q <;> rw [hp, hq] at h <;> simp only [stepS] at h
  · split at h
    · cases h
    · assumption
  all_goals cases h
theorem step_some {σ σ' : Sig} {p q : Part} (h : stepF σ p q = some σ') {r : List Int} : Sat σ' r ↔ Sat σ r ∧ p.val r = q.val r := by
  unfold stepF at h
  have key : Sat σ' r ↔ Sat σ r ∧ (walkF σ 8 p).val r = (walkF σ 8 q).val r := by
    cases hp : walkF σ 8 p with
    | num i =>
      cases hq : walkF σ 8 q with
      | num j =>
        rw [hp, hq] at h; simp only [stepS] at h
        split at h
        · rename_i e; cases h; subst e; exact ⟨fun x => ⟨x, rfl⟩, fun x => x.1⟩
        · cases h
      | var t =>
        rw [hp, hq] at h; simp only [stepS] at h
        cases h
        rw [sat_snoc]
        exact ⟨fun x => ⟨x.1, x.2.symm⟩, fun x => ⟨x.1, x.2.symm⟩⟩
    | var t =>
      rw [hp] at h; simp only [stepS] at h
      split at h
      · rename_i e; cases h; rw [← e]; exact ⟨fun x => ⟨x, rfl⟩, fun x => x.1⟩
      · cases h
        rw [sat_snoc]
        exact Iff.rfl
  rw [key]
  constructor
  · rintro ⟨a, b⟩
    exact ⟨a, by rw [walk_val a, walk_val a] at b; exact b⟩
  · rintro ⟨a, b⟩
    exact ⟨a, by rw [walk_val a, walk_val a]; exact b⟩
theorem after_sat (τu τv : Tab) : ∀ i, i ≤ τu.length → match after τu τv i with
    | some σ => ∀ r, Sat σ r ↔ (τu.take i).all (fillAt r τv) = true
    | none => ∀ r, (τu.take i).all (fillAt r τv) = false := by
  intro i
  induction i with
  | zero => intro _ r; simp [Sat]
  | succ i ih =>
    intro hi
    have ih := ih (by omega)
    have hx : τu[i]? = some τu[i] := List.getElem?_eq_getElem (by omega)
    have tk : τu.take (i + 1) = τu.take i ++ [τu[i]] := by rw [List.take_add_one, hx]; rfl
    rw [tk]
    generalize τu[i] = x at hx
    obtain ⟨k, p⟩ := x
    simp only [after, hx, List.all_append, List.all_cons, List.all_nil, Bool.and_true]
    cases ha : after τu τv i with
    | none =>
      rw [ha] at ih
      simp only at ih ⊢
      intro r; rw [ih r]; rfl
    | some σ =>
      rw [ha] at ih
      simp only at ih ⊢
      cases hv : tabAt τv k with
      | none => intro r; simp [fillAt, hv]
      | some q =>
        simp only
        cases hs : stepF σ p q with
        | none =>
          intro r
          simp only [fillAt, hv]
          rcases Bool.eq_false_or_eq_true ((τu.take i).all (fillAt r τv)) with e | e
          · have := step_none hs ((ih r).mpr e)
            rw [beq_eq_false_iff_ne.mpr this, Bool.and_false]
          · rw [e]; rfl
        | some σ' =>
          intro r
          simp only [fillAt, hv]
          rw [step_some hs, ih r, Bool.and_eq_true, beq_iff_eq]
/-- what the answer says of the rows -/
theorem fin_sat (τu τv : Tab) : match fin τu τv with
    | some σ => ∀ r, Sat σ r ↔ fillB r τu τv = true
    | none => ∀ r, fillB r τu τv = false := by
  unfold fin
  by_cases e : τu.length = τv.length
  · simp only [ne_eq, e, not_true_eq_false, if_false]
    have := after_sat τu τv τu.length (Nat.le_refl _)
    rw [List.take_length, e] at this
    have e2 : ∀ r, fillB r τu τv = τu.all (fillAt r τv) := fun r => by simp [fillB, e]
    simp only [e2]
    exact this
  · simp only [ne_eq, e, not_false_eq_true, if_true]
    intro r
    simp [fillB, e]
/-- t is nowhere in σ -/
def Off (t : Nat) (σ : Sig) : Prop := ∀ x ∈ σ, x.1 ≠ t ∧ x.2 ≠ .var t
inductive Tri : Sig → Prop
  | nil : Tri []
  | cons {t q σ} : t < 3 → PartOk q → q ≠ .var t → Off t σ → Tri σ → Tri ((t, q) :: σ)
theorem look_cons_ne {t : Nat} {q p : Part} {σ : Sig} (h : p ≠ .var t) : look ((t, q) :: σ) p = look σ p := by
  cases p with
  | num _ => rfl
  | var u =>
    have : (t == u) = false := beq_eq_false_iff_ne.mpr (fun e => h (by rw [e]))
    simp only [look, List.find?_cons, this]
theorem look_cons_eq {t : Nat} {q : Part} {σ : Sig} : look ((t, q) :: σ) (.var t) = some q := by
  simp [look, List.find?_cons]
theorem chain_cons {t : Nat} {q : Part} {σ : Sig} (o : Off t σ) {n p e} (c : Chain σ n p e) : p ≠ .var t → Chain ((t, q) :: σ) n p e := by
  induction c with
  | stop h => intro hp; exact .stop (by rw [look_cons_ne hp]; exact h)
  | @step n p q' r h _ ih =>
    intro hp
    refine .step (by rw [look_cons_ne hp]; exact h) (ih ?_)
    obtain ⟨u, _, hm⟩ := look_mem h
    exact (o _ hm).2
theorem Tri.chain {σ : Sig} (h : Tri σ) : ∀ p, ∃ n e, n ≤ σ.length ∧ Chain σ n p e := by
  induction h with
  | nil => intro p; exact ⟨0, p, Nat.le_refl _, .stop (by cases p <;> rfl)⟩
  | @cons t q σ _ _ hq o _ ih =>
    intro p
    by_cases e : p = .var t
    · obtain ⟨n, e', hn, c⟩ := ih q
      exact ⟨n + 1, e', by simp; omega, by rw [e]; exact .step look_cons_eq (chain_cons o c hq)⟩
    · obtain ⟨n, e', hn, c⟩ := ih p
      exact ⟨n, e', by simp; omega, chain_cons o c e⟩
theorem Chain.walk {σ : Sig} {n p e} (c : Chain σ n p e) : ∀ m, n ≤ m → walkF σ m p = e ∧ look σ e = none := by
  induction c with
  | stop h =>
    intro m _
    refine ⟨?_, h⟩
    cases m with
    | zero => rfl
    | succ m => rw [walkF, h]
  | step h _ ih =>
    intro m hm
    cases m with
    | zero => omega
    | succ m => rw [walkF, h]; exact ih m (by omega)
theorem Tri.snoc {σ : Sig} (h : Tri σ) {t : Nat} {q : Part} (ht : t < 3) (hq : PartOk q) (hn : q ≠ .var t) (l1 : look σ (.var t) = none) (l2 : look σ q = none) : Tri (σ ++ [(t, q)]) := by
  induction h with
  | nil => exact .cons ht hq hn (fun _ hx => by cases hx) .nil
  | @cons u q' σ hu hq' hn' o _ ih =>
    have n1 : u ≠ t := fun e => by rw [e, look_cons_eq] at l1; cases l1
    have n2 : q ≠ .var u := fun e => by rw [e, look_cons_eq] at l2; cases l2
    have n1' : Part.var t ≠ .var u := fun e => by cases e; exact n1 rfl
    rw [look_cons_ne n1'] at l1
    rw [look_cons_ne n2] at l2
    refine .cons hu hq' hn' ?_ (ih l1 l2)
    intro x hx
    rcases List.mem_append.mp hx with hx | hx
    · exact o x hx
    · rw [List.mem_singleton.mp hx]; exact ⟨fun e => n1 e.symm, n2⟩
theorem Tri.ok {σ : Sig} (h : Tri σ) : ∀ x ∈ σ, x.1 < 3 ∧ PartOk x.2 := by
  induction h with
  | nil => intro x hx; cases hx
  | cons a b _ _ _ ih =>
    intro x hx
    rcases List.mem_cons.mp hx with rfl | hx
    · exact ⟨a, b⟩
    · exact ih x hx
theorem walk_ok {σ : Sig} (h : Tri σ) : ∀ n p, PartOk p → PartOk (walkF σ n p) := by
  intro n
  induction n with
  | zero => intro p hp; exact hp
  | succ n ih =>
    intro p hp
    rw [walkF]
    split
    · exact hp
    · rename_i q e
      obtain ⟨t, rfl, hm⟩ := look_mem e
      exact ih _ (h.ok _ hm).2
theorem Tri.step {σ σ' : Sig} (h : Tri σ) (hl : σ.length ≤ 7) {p q : Part} (hp : PartOk p) (hq : PartOk q) (e : stepF σ p q = some σ') : Tri σ' ∧ σ'.length ≤ σ.length + 1 := by
  have wp : look σ (walkF σ 8 p) = none := by
    obtain ⟨n, e', hn, c⟩ := h.chain p
    obtain ⟨e1, e2⟩ := Chain.walk c 8 (by omega)
    rw [e1]; exact e2
  have wq : look σ (walkF σ 8 q) = none := by
    obtain ⟨n, e', hn, c⟩ := h.chain q
    obtain ⟨e1, e2⟩ := Chain.walk c 8 (by omega)
    rw [e1]; exact e2
  have op := walk_ok h 8 p hp
  have oq := walk_ok h 8 q hq
  unfold stepF at e
  cases hP : walkF σ 8 p with
  | num i =>
    rw [hP] at e wp op
    cases hQ : walkF σ 8 q with
    | num j =>
      rw [hQ] at e; simp only [stepS] at e
      split at e
      · cases e; exact ⟨h, by omega⟩
      · cases e
    | var t =>
      rw [hQ] at e wq oq; simp only [stepS] at e
      cases e
      exact ⟨h.snoc oq op (by intro x; cases x) wq wp, by simp⟩
  | var t =>
    rw [hP] at e wp op; simp only [stepS] at e
    split at e
    · cases e; exact ⟨h, by omega⟩
    · rename_i ne
      cases e
      exact ⟨h.snoc op oq (fun x => ne x.symm) wp wq, by simp⟩
theorem after_tri {τu τv : Tab} (ou : ∀ x ∈ τu, PartOk x.2) (ov : ∀ x ∈ τv, PartOk x.2) (hl : τu.length ≤ 4) : ∀ i σ, after τu τv i = some σ → Tri σ ∧ σ.length ≤ i ∧ i ≤ τu.length := by
  intro i
  induction i with
  | zero => intro σ e; cases e; exact ⟨.nil, Nat.le_refl _, Nat.zero_le _⟩
  | succ i ih =>
    intro σ' e
    rw [after] at e
    split at e
    · rename_i σ k p ha hx
      obtain ⟨t, hlen, hi⟩ := ih σ ha
      have hi' := (List.getElem?_eq_some_iff.mp hx).1
      split at e
      · rename_i q hv
        have hp := ou _ (List.mem_of_getElem? hx)
        have hq : PartOk q := by
          simp only [tabAt, Option.map_eq_some_iff] at hv
          obtain ⟨x, hx, rfl⟩ := hv
          exact ov x (List.mem_of_find?_eq_some hx)
        obtain ⟨a, b⟩ := t.step (by omega) hp hq e
        exact ⟨a, by omega, by omega⟩
      · cases e
    · cases e
theorem PartOk.small {p : Part} (h : PartOk p) : p.small := by
  cases p with
  | num _ => exact trivial
  | var t => exact Nat.lt_trans h (by decide)
theorem okTabs {τu τv : Tab} (ou : ∀ x ∈ τu, PartOk x.2) (ov : ∀ x ∈ τv, PartOk x.2) (hu : τu.length ≤ 4) (hv : τv.length ≤ 4) : OkTabs τu τv where
  lu := by omega
  lv := by omega
  su := fun x hx => (ou x hx).small
  sv := fun x hx => (ov x hx).small
  sig := fun i σ e => by
    obtain ⟨t, a, b⟩ := after_tri ou ov hu i σ e
    refine ⟨fun x hx => (t.ok x hx).2.small, by omega, fun p => ?_⟩
    obtain ⟨n, e', hn, c⟩ := t.chain p
    obtain ⟨e1, _⟩ := Chain.walk c 8 (by omega)
    exact ⟨n, by rw [e1]; exact c⟩
theorem rowsL_mem : ∀ a ∈ ([0, 1, 2] : List Int), ∀ b ∈ ([0, 1, 2] : List Int), ∀ c ∈ ([0, 1, 2] : List Int), [a, b, c] ∈ rowsL := by decide
theorem three {a : Int} (h : 0 ≤ a ∧ a < 3) : a ∈ ([0, 1, 2] : List Int) := by
  obtain ⟨h1, h2⟩ := h
  simp; omega
def RowOk (r : List Int) : Prop := r.length = 3 ∧ ∀ t, t < 3 → 0 ≤ r.getD t 0 ∧ r.getD t 0 < 3
theorem RowOk.mem {r : List Int} (h : RowOk r) : r ∈ rowsL := by
  obtain ⟨hl, h⟩ := h
  match r, hl with
  | [a, b, c], _ => exact rowsL_mem a (three (h 0 (by decide))) b (three (h 1 (by decide))) c (three (h 2 (by decide)))
theorem val_set {r : List Int} {t : Nat} {v : Int} {q : Part} (h : q ≠ .var t) : q.val (r.set t v) = q.val r := by
  cases q with
  | num _ => rfl
  | var u =>
    have : t ≠ u := fun e => h (by rw [e])
    simp only [Part.val, List.getD_eq_getElem?_getD, List.getElem?_set_ne this]
theorem Tri.row {σ : Sig} (h : Tri σ) : ∃ r, RowOk r ∧ Sat σ r := by
  induction h with
  | nil => exact ⟨[0, 0, 0], ⟨rfl, by decide⟩, fun x hx => by cases hx⟩
  | @cons t q σ ht hq hn o _ ih =>
    obtain ⟨r, ⟨hl, hr⟩, hs⟩ := ih
    have hv : 0 ≤ q.val r ∧ q.val r < 3 := by
      cases q with
      | num i => exact hq
      | var u => exact hr u hq
    refine ⟨r.set t (q.val r), ⟨by rw [List.length_set]; exact hl, fun u hu => ?_⟩, ?_⟩
    · by_cases e : t = u
      · subst e
        rw [List.getD_eq_getElem?_getD, List.getElem?_set_self (by omega)]
        exact hv
      · rw [List.getD_eq_getElem?_getD, List.getElem?_set_ne e, ← List.getD_eq_getElem?_getD]
        exact hr u hu
    · intro x hx
      rcases List.mem_cons.mp hx with rfl | hx
      · show (r.set t (q.val r)).getD t 0 = q.val (r.set t (q.val r))
        rw [val_set hn, List.getD_eq_getElem?_getD, List.getElem?_set_self (by omega)]
        rfl
      · have ox := o x hx
        rw [val_set ox.2, ← hs x hx, List.getD_eq_getElem?_getD, List.getElem?_set_ne (fun e => ox.1 e.symm), ← List.getD_eq_getElem?_getD]
/-- the check of a row against a substitution -/
def satB (σ : Sig) (r : List Int) : Bool := σ.all (fun x => r.getD x.1 0 == x.2.val r)
theorem satB_iff {σ : Sig} {r : List Int} : satB σ r = true ↔ Sat σ r := by
  simp only [satB, List.all_eq_true, beq_iff_eq, Sat]
theorem plain_none {τu τv : Tab} (h : fin τu τv = none) : rowsL.filter (fun r => fillB r τu τv) = [] := by
  have := fin_sat τu τv
  rw [h] at this
  rw [List.filter_eq_nil_iff]
  intro r _
  rw [this r]
  decide
theorem plain_some {τu τv : Tab} {σ : Sig} (ou : ∀ x ∈ τu, PartOk x.2) (ov : ∀ x ∈ τv, PartOk x.2) (hu : τu.length ≤ 4) (h : fin τu τv = some σ) :
    rowsL.filter (fun r => fillB r τu τv) ≠ [] ∧ rowsL.filter (fun r => fillB r τu τv) = rowsL.filter (satB σ) ∧ Tri σ ∧ σ.length ≤ 4 := by
  have hs := fin_sat τu τv
  rw [h] at hs
  simp only at hs
  have ha : after τu τv τu.length = some σ := by
    unfold fin at h
    split at h
    · cases h
    · exact h
  obtain ⟨t, a, b⟩ := after_tri ou ov hu _ _ ha
  have e : (fun r => fillB r τu τv) = satB σ := by
    funext r
    rw [Bool.eq_iff_iff, ← hs r, satB_iff]
  refine ⟨?_, by rw [e], t, by omega⟩
  obtain ⟨r, hr, sr⟩ := t.row
  exact List.ne_nil_of_mem (List.mem_filter.mpr ⟨hr.mem, (hs r).mp sr⟩)
end Mine
end
section
open PySem PySem.W PySem.Calls PyProof.Rows
set_option maxRecDepth 100000
set_option maxHeartbeats 4000000
namespace Mine
/-- a table the law can fill -/
structure TabOk (τ : Tab) : Prop where
  len : τ.length ≤ 1000
  nd : (τ.map (·.1)).Nodup
  vars : ∀ x ∈ τ, ∀ t, x.2 = .var t → t < 3
theorem toPart_ok {k : Int} (h0 : 0 ≤ k) (h6 : k < 6) : PartOk (toPart k) := by
  unfold toPart
  split
  · show k.toNat < 3
    omega
  · show 0 ≤ k - 3 ∧ k - 3 < 3
    omega
theorem tabOf_ok {pz : Int → Bool} {f : Int → Part} {ks : List Int} (hf : ∀ k, PartOk (f k)) : ∀ x ∈ tabOf pz f ks, PartOk x.2 := by
  intro x hx
  unfold tabOf at hx
  obtain ⟨k, _, rfl⟩ := List.mem_map.mp hx
  exact hf k
theorem tabOf_len {pz : Int → Bool} {f : Int → Part} {ks : List Int} : (tabOf pz f ks).length ≤ ks.length := by
  unfold tabOf
  rw [List.length_map]
  exact List.length_filter_le _ _
theorem tabOf_nd {pz : Int → Bool} {f : Int → Part} {ks : List Int} (h : ks.Nodup) : ((tabOf pz f ks).map (·.1)).Nodup := by
  unfold tabOf
  rw [List.map_map]
  have : ((fun x : Int × Part => x.1) ∘ fun k => (k, f k)) = id := rfl
  rw [this, List.map_id]
  exact List.Nodup.sublist List.filter_sublist h
theorem tabOf_tabOk {pz : Int → Bool} {f : Int → Part} {ks : List Int} (hl : ks.length ≤ 4) (h : ks.Nodup) (hf : ∀ k, PartOk (f k)) : TabOk (tabOf pz f ks) where
  len := Nat.le_trans tabOf_len (by omega)
  nd := tabOf_nd h
  vars := fun x hx t e => by
    have := tabOf_ok hf x hx
    rw [e] at this
    exact this
theorem part6_ok (a : Int) : PartOk (toPart (Int.fmod a 6)) := toPart_ok (fmod_lo _ (by decide)) (Int.fmod_lt_of_pos _ (by decide))
/-- the numbers of a script -/
def nums (ns : List Int) : List Int := ns.take 4 ++ [96, 496, 256, 416].drop (ns.take 4).length
theorem nums_len (ns : List Int) : (nums ns).length = 4 := by
  unfold nums
  rw [List.length_append, List.length_drop, List.length_take]
  simp
  omega
def one (ns : List Int) : Tab := tabOf (fun k => Int.fmod ((nums ns).getD k.toNat 0) 16 != 15) (fun k => toPart (Int.fmod (Int.fdiv ((nums ns).getD k.toNat 0) 16) 6)) [0, 1, 2, 3]
def two (ns : List Int) : Tab := tabOf (fun k => Int.fmod ((nums ns).getD k.toNat 0) 16 != 14) (fun k => toPart (Int.fmod (Int.fdiv ((nums ns).getD k.toNat 0) 96) 6)) [3, 2, 1, 0]
theorem one_ok (ns) : ∀ x ∈ one ns, PartOk x.2 := tabOf_ok fun _ => part6_ok _
theorem two_ok (ns) : ∀ x ∈ two ns, PartOk x.2 := tabOf_ok fun _ => part6_ok _
theorem one_len (ns) : (one ns).length ≤ 4 := tabOf_len
theorem two_len (ns) : (two ns).length ≤ 4 := tabOf_len
theorem one_tab (ns) : TabOk (one ns) := tabOf_tabOk (by decide) (by decide) fun _ => part6_ok _
theorem two_tab (ns) : TabOk (two ns) := tabOf_tabOk (by decide) (by decide) fun _ => part6_ok _
theorem tabs_ok (ns) : OkTabs (one ns) (two ns) := okTabs (one_ok ns) (two_ok ns) (one_len ns) (two_len ns)
theorem law_none {ns} (h : fin (one ns) (two ns) = none) : rowsL.filter (fun r => fillB r (one ns) (two ns)) = [] := plain_none h
theorem law_some {ns σ} (h : fin (one ns) (two ns) = some σ) :
    rowsL.filter (fun r => fillB r (one ns) (two ns)) ≠ [] ∧ rowsL.filter (fun r => fillB r (one ns) (two ns)) = rowsL.filter (satB σ) ∧ Tri σ ∧ σ.length ≤ 4 := plain_some (one_ok ns) (two_ok ns) (one_len ns) h
end Mine
end
section
open PySem PySem.W PySem.Calls PyProof.Rows PySem.SeqAt
set_option maxRecDepth 100000
set_option maxHeartbeats 4000000
namespace Mine
section
variable {w : World} {mg mb : Str → Option Value} {A : Around} {E : Value → Shared → Prop} {s : Shared}
theorem int_eq_declines_dict (b : Bool) (l : Addr) (es : List DictEntry) (ep : Nat) :
    Meets (Builtin.«int.__eq__» ⟨[.bool b, .ref l], []⟩) (fun _ R s => s.heap.get? l = some (dictOf es ep) ∧ R (.ok (.ret .notImplemented)) s) :=
  .of_wp fun prog w A R s h => by obtain ⟨hp, g, d, tk, os⟩ := s; obtain ⟨hl, h⟩ := h; wp_walk using wpAny_loadPart' hl, wpAny_load hl; exact ⟨_, rfl, h⟩
theorem dict_eq_false {d : Nat} {σ : Sig} {Q : Value → Shared → Prop} (hd : IsSub s.heap d σ) (hu : A.units < cLine) (h : Q (.bool false) s) :
    wpAny (model P0 w) A (compareOp .Eq (.ref d) (.bool false)) Q E s := by
  obtain ⟨⟨es, ep, ho, _⟩, _, _, _⟩ := hd
  refine SeqAt.rc_eq_decline_or (Ta := "dict") (Tb := "bool") (k := false) ⟨_, ho, rfl⟩ rfl (by decide) F.sub_bool_dict F.slot_dict_eq F.slot_bool_eq_refl ?_ ?_
    (fun _ hq => wpAny_of_eq (rfl : isSame (.ref d) (.bool false) = pure false) hq) (.inr hu) h
  · intro Q' hq
    refine wpAny_call_entry PySem.F.slot_dict_eq ⟨_, ho, rfl⟩ PySem.F.entry_dict_eq ?_ (PySem.F.args_dict_eq_2 _ _)
    show wpAny _ _ (Builtin.Dict.dictSlotArgs "__eq__" ⟨[.ref d, .bool false], []⟩ >>= _) _ _ s
    refine wpAny_bind ?_
    unfold Builtin.Dict.dictSlotArgs
    refine wpAny_bind (wpAny_notOrdered_dict ⟨_, ho, rfl⟩ ?_)
    show wpAny _ _ (pure (Value.ref d, Value.bool false)) _ _ s
    refine wpAny_pure ?_
    refine wpAny_bind (wpAny_isInstance (T := "bool") rfl PySem.F.sub_bool_dict ?_)
    simp only [Bool.not_false, if_true]
    refine wpAny_bind (wpAny_rule ?_)
    refine wpAny_pure ⟨_, rfl, hq⟩
  · intro Q' hq
    exact call_meets F.slot_bool_eq_refl rfl F.entry_int_eq (F.args_int_eq_2 _ _) (int_eq_declines_dict false d es ep) ⟨ho, hq⟩
/-- two rows of the same numbers -/
theorem ints_eqs : ∀ {vs us : List Value} {ns : List Int}, IntsAre vs ns → IntsAre us ns → vs.length = us.length ∧ ∀ j (h1 : j < vs.length) (h2 : j < us.length), EqAt A s vs[j] us[j] true := by
  intro vs us ns h1 h2
  refine ⟨by rw [h1.length, h2.length], fun j a b => ?_⟩
  have hj : j < ns.length := by rw [← h1.length]; exact a
  obtain ⟨t1, e1⟩ := intsAre_at h1 (List.getElem?_eq_getElem hj)
  obtain ⟨t2, e2⟩ := intsAre_at h2 (List.getElem?_eq_getElem hj)
  rw [List.getElem?_eq_getElem a] at e1
  rw [List.getElem?_eq_getElem b] at e2
  rw [Option.some.inj e1, Option.some.inj e2]
  have := EqAt.int_int (A := A) (s := s) ns[j] t1 ns[j] t2
  rw [beq_self_eq_true] at this
  exact this
theorem all_true (n : Nat) : (List.range n).all (fun _ => true) = true := by simp
theorem row_eq {a b : Nat} {ns : List Int} (ha : IsInts s.heap a ns) (hb : IsInts s.heap b ns) (hu : A.units < cLine) : EqAt A s (.ref a) (.ref b) true := by
  by_cases e : a = b
  · rw [e]; exact EqAt.same _
  · obtain ⟨va, la, ia⟩ := ha
    obtain ⟨vb, lb, ib⟩ := hb
    obtain ⟨hl, he⟩ := ints_eqs (A := A.in1) (s := s) ia ib
    have := RcAt.lists (A := A) (e := fun _ => true) la lb (by simpa using hl) hu (fun j h1 h2 => by
      have := he j (by simpa using h1) (by simpa using h2)
      simpa using this)
    rw [all_true] at this
    exact EqAt.of_refs e this
theorem rows_eq_at {vs us : List Value} {nss : List (List Int)} (h1 : RowEnts s.heap vs nss) (h2 : RowEnts s.heap us nss) (hu : A.units < cLine) : ∀ j (a : j < vs.length) (b : j < us.length), EqAt A s vs[j] us[j] true := by
  intro j a b
  have hj : j < nss.length := by rw [← h1.len]; exact a
  obtain ⟨r1, e1, i1⟩ := h1.at (List.getElem?_eq_getElem hj)
  obtain ⟨r2, e2, i2⟩ := h2.at (List.getElem?_eq_getElem hj)
  rw [List.getElem?_eq_getElem a] at e1
  rw [List.getElem?_eq_getElem b] at e2
  rw [Option.some.inj e1, Option.some.inj e2]
  exact row_eq i1 i2 hu
theorem isList_of {a : Nat} {vs : List Value} {n : Nat} (h : s.heap.get? a = some (listOf vs.toArray n)) : s.heap.IsList a vs.toArray := ⟨_, h, rfl, n, rfl⟩
/-- == of two lists of the same rows -/
theorem rows_eq {a b : Nat} {nss : List (List Int)} {Q : Value → Shared → Prop} (ha : IsRows s.heap a nss) (hb : IsRows s.heap b nss) (hu : A.units + 1 < cLine) (hin : A.in1.units < cLine) (h : Q (.bool true) s) :
    wpAny (model P0 w) A (compareOp .Eq (.ref a) (.ref b)) Q E s := by
  obtain ⟨va, na, la, ia⟩ := ha
  obtain ⟨vb, nb, lb, ib⟩ := hb
  refine eq_listAt (e := fun _ => true) (isList_of la) (isList_of lb) (by simp [ia.len, ib.len]) (by omega) (fun j h1 h2 => ?_) (by rw [all_true]; exact h)
  have := rows_eq_at (A := A.in1) ia ib hin j (by simpa using h1) (by simpa using h2)
  simpa using this
/-- rows == [] -/
theorem rows_eq_nil {a b : Nat} {nss : List (List Int)} {n : Nat} {Q : Value → Shared → Prop} (ha : IsRows s.heap a nss) (hb : s.heap.get? b = some (listOf #[] n)) (hu : A.units < cLine) (h : Q (.bool nss.isEmpty) s) :
    wpAny (model P0 w) A (compareOp .Eq (.ref a) (.ref b)) Q E s := by
  obtain ⟨va, na, la, ia⟩ := ha
  have lb : s.heap.IsList b #[] := ⟨_, hb, rfl, n, rfl⟩
  cases nss with
  | nil =>
    cases ia
    exact eq_listAt (e := fun _ => true) (isList_of la) lb rfl hu (fun j h1 h2 => by simp at h2) h
  | cons x r =>
    refine eq_list_lengthsAt (isList_of la) lb ?_ hu h
    simp [ia.len]
/-- rows != [] -/
theorem rows_ne_nil {a b : Nat} {nss : List (List Int)} {n : Nat} {Q : Value → Shared → Prop} (ha : IsRows s.heap a nss) (hb : s.heap.get? b = some (listOf #[] n)) (hu : A.units < cLine) (h : Q (.bool (!nss.isEmpty)) s) :
    wpAny (model P0 w) A (compareOp .NotEq (.ref a) (.ref b)) Q E s := by
  obtain ⟨va, na, la, ia⟩ := ha
  have lb : s.heap.IsList b #[] := ⟨_, hb, rfl, n, rfl⟩
  cases nss with
  | nil =>
    cases ia
    exact RcNeAt.lists (e := fun _ => true) (isList_of la) lb rfl hu (fun j h1 h2 => by simp at h2) _ _ _ _ h
  | cons x r =>
    exact RcNeAt.lists_lengths (isList_of la) lb (by simp [ia.len]) hu _ _ _ _ h
theorem bool_eq_false {Q : Value → Shared → Prop} (h : Q (.bool true) s) : wpAny (model P0 w) A (compareOp .Eq (.bool false) (.bool false)) Q E s :=
  SeqAt.RcAt.bool_bool false false _ _ _ _ h
end
end Mine
end
section
open PySem PySem.W PySem.Calls PyProof.Rows PySem.SeqAt
set_option maxRecDepth 100000
set_option maxHeartbeats 4000000
namespace Mine
section
variable {w : World} {mg mb : Str → Option Value} {A : Around} {E : Value → Shared → Prop} {s : Shared} {g : Heap}
/-- the iterator over the keys of a table whose keys are variables -/
theorem iter_sub {d : Nat} {es : List DictEntry} {ep : Nat} {Q : Value → Shared → Prop} (ho : s.heap.get? d = some (dictOf es ep)) (big : 185 < d)
    (h : ∀ h', Sub s.heap h' → h'.objs.size = s.heap.objs.size + 1 → h'.IsKeyIter s.heap.objs.size d 0 es.length ep → Q (.ref s.heap.objs.size) { s with heap := h' }) :
    wpAny (model P0 w) A (pyIter (.ref d)) Q E s := by
  have hT : s.TypeIs (.ref d) "dict" := ⟨_, ho, rfl⟩
  have fin := h (s.heap.push { cls := .type "dict_keyiterator", data := .fields #[.ref d, .int ((0 : Nat) : Int) 0, .int es.length 0, .int ep 0] }) (fun a o e => Heap.get?_push_of_some _ e) (Heap.size_push ..) ⟨_, Heap.get?_push_size _ rfl, rfl, rfl⟩
  refine wpAny_pyIter_slot hT F.slot_dict_iter (wpAny_call_entry F.slot_dict_iter hT F.entry_dict_iter ?_ (F.args_dict_iter_1 _))
  unfold Builtin.«dict.__iter__» Builtin.Dict.dictSlotNone
  refine wpAny_bind (wpAny_bind (wpAny_notOrdered_dict hT ?_))
  show wpAny _ _ (pure (Value.ref d)) _ _ s
  refine wpAny_pure ?_
  show wpAny _ _ (Builtin.Dict.showsAll d >>= _) _ _ s
  unfold Builtin.Dict.showsAll
  rw [if_neg (by rw [not_sys big]; exact Bool.false_ne_true)]
  refine wpAny_bind (wpAny_pure (wpAny_bind (wpAny_dictEntries ho rfl (wpAny_bind (wpAny_dictEpoch ho rfl ?_)))))
  refine wpAny_bind (wpAny_newObj_type (wpAny_pure ⟨_, rfl, "dict_keyiterator", _, ⟨_, Heap.get?_push_size _ rfl, rfl⟩, F.slot_dict_keyiterator_next.lookup, ?_⟩))
  simpa [rawInt] using fin
theorem next_sub {d it i : Nat} {es : List DictEntry} {ep : Nat} {e : DictEntry} {Q : Option Value → Shared → Prop} (ho : s.heap.get? d = some (dictOf es ep)) (hit : s.heap.IsKeyIter it d i es.length ep) (hx : es[i]? = some e)
    (h : ∀ h', h'.IsKeyIter it d (i + 1) es.length ep → Heap.SameBut it s.heap h' → Q (some e.key) { s with heap := h' }) :
    wpAny (model P0 w) A (pyNext (.ref it)) Q E s := by
  obtain ⟨oi, hoi, hci, hdi⟩ := id hit
  have hT := hit.typeIs
  have hlt : i < es.length := (List.getElem?_eq_some_iff.mp hx).1
  have hup : (s.heap.update it (Obj.mapFields (·.setIfInBounds 1 (rawInt ((i : Int) + 1))))).IsKeyIter it d (i + 1) es.length ep :=
    ⟨_, Heap.get?_update_self _ hoi (Obj.isFreed_of_fields (Obj.data_mapFields hdi _)), (Obj.cls_mapFields ..).trans hci, by rw [Obj.data_mapFields hdi]; simp [rawInt]⟩
  unfold pyNext
  refine wpAny_bind (wpAny_attempt (wpAny_callSpecial?_slot (name := Str.ofString "__next__") hT F.slot_dict_keyiterator_next
    (wpAny_call_entry F.slot_dict_keyiterator_next hT F.entry_dict_keyiterator_next ?_ (F.args_dict_keyiterator_next_1 _))))
  refine wpAny_bind (wpAny_pure (wpAny_bind (wpAny_bind (wpAny_bind ?_))))
  refine wpAny_typeNameOfWhole_keyiter hT (wpAny_pure ?_)
  refine wpAny_bind (wpAny_fieldsOf hoi hdi ?_)
  simp only [show Builtin.Dict_items.ownsTuple "dict_keyiterator" = false by decide, Bool.false_eq_true, if_false]
  show wpAny _ _ (if (Value.ref d == Value.none) = true then _ else _) _ _ s
  rw [if_neg (show ¬ ((Value.ref d == Value.none) = true) from Bool.false_ne_true)]
  refine wpAny_bind (wpAny_pure (wpAny_bind (wpAny_dictEntries ho rfl ?_)))
  rw [if_neg (by simp)]
  refine wpAny_bind (wpAny_pure (wpAny_bind (wpAny_dictEpoch ho rfl ?_)))
  rw [if_neg (by simp)]
  refine wpAny_pure ?_
  simp only [show ¬ ((i : Int) < 0) from by omega, if_false, Int.toNat_natCast, List.getElem?_toArray, hx]
  refine wpAny_bind (wpAny_bind (wpAny_typeNameOfWhole_keyiter hT (wpAny_pure (wpAny_bind (wpAny_isOneOf_keyiter hT ?_)))))
  show wpAny _ _ (setField (.ref it) 1 (rawInt ((i : Int) + 1)) >>= _) _ _ s
  refine wpAny_bind (wpAny_setField hoi hdi (by simp) (wpAny_bind (wpAny_holding ?_)))
  refine wpAny_bind (wpAny_isOneOf_keyiter (s := { s with heap := s.heap.update it (Obj.mapFields (·.setIfInBounds 1 (rawInt ((i : Int) + 1)))) }) hup.typeIs ?_)
  show wpAny _ _ (pure e.key) _ _ _
  exact wpAny_pure (wpAny_pure ⟨_, rfl, wpAny_pure (h _ hup (Heap.SameBut.update ..))⟩)
theorem next_sub_end {d it : Nat} {es : List DictEntry} {ep : Nat} {Q : Option Value → Shared → Prop} (hA : A.handled = none) (ho : s.heap.get? d = some (dictOf es ep)) (hit : s.heap.IsKeyIter it d es.length es.length ep)
    (h : ∀ h', Heap.ExtBut it s.heap h' → Q none { s with heap := h' }) : wpAny (model P0 w) A (pyNext (.ref it)) Q E s := by
  obtain ⟨oi, hoi, hci, hdi⟩ := id hit
  have hT := hit.typeIs
  unfold pyNext
  refine wpAny_bind (wpAny_attempt (wpAny_callSpecial?_slot (name := Str.ofString "__next__") hT F.slot_dict_keyiterator_next
    (wpAny_call_entry F.slot_dict_keyiterator_next hT F.entry_dict_keyiterator_next ?_ (F.args_dict_keyiterator_next_1 _))))
  refine wpAny_bind (wpAny_pure (wpAny_bind (wpAny_bind (wpAny_bind ?_))))
  refine wpAny_typeNameOfWhole_keyiter hT (wpAny_pure ?_)
  refine wpAny_bind (wpAny_fieldsOf hoi hdi ?_)
  simp only [show Builtin.Dict_items.ownsTuple "dict_keyiterator" = false by decide, Bool.false_eq_true, if_false]
  show wpAny _ _ (if (Value.ref d == Value.none) = true then _ else _) _ _ s
  rw [if_neg (show ¬ ((Value.ref d == Value.none) = true) from Bool.false_ne_true)]
  refine wpAny_bind (wpAny_pure (wpAny_bind (wpAny_dictEntries ho rfl ?_)))
  rw [if_neg (by simp)]
  refine wpAny_bind (wpAny_pure (wpAny_bind (wpAny_dictEpoch ho rfl ?_)))
  rw [if_neg (by simp)]
  refine wpAny_pure ?_
  simp only [show ¬ ((es.length : Int) < 0) from by omega, if_false, Int.toNat_natCast, List.getElem?_toArray, List.getElem?_eq_none (Nat.le_refl es.length)]
  refine wpAny_bind (wpAny_bind (wpAny_typeNameOfWhole_keyiter hT (wpAny_pure ?_)))
  show wpAny _ _ (setField (.ref it) 0 .none >>= _) _ _ s
  refine wpAny_bind (wpAny_setField hoi hdi (by simp) ?_)
  show wpAny _ _ (newExc (.type "StopIteration") [] >>= _) _ _ _
  refine wpAny_bind ?_
  simp only [newExc, newTuple]
  refine wpAny_bind (wpAny_newObj_type ?_ (by size_fits))
  refine wpAny_bind (m := firstArgMember _ _) (wpAny_of_eq (a := Value.none) (by first | rfl | (simp only [firstArgMember]; rfl)) ?_)
  refine wpAny_newObj_type ?_ (by size_fits)
  simp only [raiseNew]
  refine wpAny_bind (wpAny_handled ?_)
  rw [show A.in1.handled = none from hA]
  refine wpAny_bind (wpAny_pure (wpAny_throw ?_))
  refine wpAny_bind (wpAny_isInstance (T := "StopIteration") (b := true) ⟨_, Heap.get?_push_size _ rfl, rfl⟩ isSubtype_stop ?_)
  exact wpAny_pure (h _ (((Heap.SameBut.update ..).extBut.push _).push _))
end
end Mine
end
section
open PySem PySem.W PySem.Calls PyProof.Rows
set_option maxRecDepth 100000
set_option maxHeartbeats 4000000
namespace Mine
/-- the scope of the comprehension over told's keys -/
def keyScope : Scope := { kind := .function, names := [(Str.ofString ".0", .local), (Str.ofString "key", .local), (Str.ofString "_law_value", .globalImplicit), (Str.ofString "given", .free), (Str.ofString "told", .free)], isGenerator := false, isCoroutine := false, more := [] }
def badB (row : List Int) (x : Nat × Part) : Bool := !(row.getD x.1 0 == x.2.val row)
section
variable {w : World} {mg mb : Str → Option Value} {A : Around} {E : Value → Shared → Prop} {s : Shared} {g : Heap} {env : Env}
theorem key_kind {cl : List (Str × Addr)} {C : Nat} (hk : env.scope.kind = .function) (hg : env.kindOf "given" = some .cell) (ht : env.kindOf "told" = some .cell) :
    (compEnvC keyScope cl C env).kindOf "given" = some .cell ∧ (compEnvC keyScope cl C env).kindOf "told" = some .cell ∧ (compEnvC keyScope cl C env).kindOf "key" = some .local ∧ (compEnvC keyScope cl C env).kindOf "_law_value" = some .globalImplicit := by
  have e1 : (env.scope.kind == ScopeKind.function) = true := by rw [hk]; rfl
  have e2 : (env.kindOf "given" == some NameKind.cell) = true := by rw [hg]; rfl
  have e3 : (env.kindOf "told" == some NameKind.cell) = true := by rw [ht]; rfl
  refine ⟨?_, ?_, ?_, ?_⟩ <;>
    · show List.lookup _ (List.map _ _) = _
      simp only [keyScope, List.map_cons, List.map_nil, e1, e2, e3]
      rfl
theorem Fz.out {g₀ h₀ g h h' : Heap} {L : Nat} {m} (F : Fz g₀ h₀ g h L m) (hs : Heap.SameBut L h h') : Ext g₀ h₀ g h' := by
  refine ⟨F.x.gg, fun a o e => ?_, fun a o e => ?_, F.x.new, ?_⟩
  · rw [hs.2 a (fun q => by rw [q, F.off] at e; cases e)]; exact F.x.gh a o e
  · rw [hs.2 a (Nat.ne_of_lt (Nat.lt_of_lt_of_le (Heap.lt_size e) F.own))]; exact F.x.hh a o e
  · rw [hs.1]; exact F.x.sz
theorem keycomp {d r cg ct : Nat} {σ : Sig} {row : List Int} {p1 p2 p3 p4 p5 p6 p7 p8 p9 p10 p11 p12 p13 p14 pos : Pos} {cl : List (Str × Addr)} {Q : Value → Shared → Prop}
    (G : Gd w mg mb g) (hg : Sub g s.heap) (hA : A.handled = none) (hroom : Rm 6 A) (hd : IsSub g d σ) (hlen : σ.length ≤ 100) (hrow : IsInts g r row) (hr : row.length < 1000) (hok : ∀ x ∈ σ, x.1 < row.length ∧ ∀ t, x.2 = .var t → t < row.length)
    (hk : env.scope.kind = .function) (hgl : env.globals = mainGlobals) (hkg : env.kindOf "given" = some .cell) (hkt : env.kindOf "told" = some .cell) (hclos : closureFor keyScope env = pure cl)
    (h1 : cl.lookup ("given" : Str) = some cg) (h2 : cl.lookup ("told" : Str) = some ct) (h1' : env.cells.lookup ("told" : Str) = some ct) (c1 : s.heap.IsCell cg (some (.ref r))) (c2 : s.heap.IsCell ct (some (.ref d)))
    (h : ∀ g' h' tk (D : Nat), Ext g s.heap g' h' → (∃ vs n, h'.get? D = some (listOf vs n) ∧ vs.size = (σ.filter (badB row)).length) → Q (.ref D) { s with heap := h', toks := tk }) :
    wpAny (model P0 w) A (eval (.ListComp (.Name "key" p1) [⟨.Name "key" p2, .Name "told" p3, [.Compare (.Subscript (.Name "given" p4) (.Attribute (.Name "key" p5) "token" p6) p7) [.NotEq]
      [.Call (.Name "_law_value" p8) [.Subscript (.Name "told" p9) (.Name "key" p10) p11, .Name "given" p12] [] p13] p14], 0⟩] keyScope pos) env) Q E s := by
  obtain ⟨⟨es, ep, e1, e2⟩, nd, sm, big⟩ := id hd
  have hes := e2.len
  rw [arm_eval_ListComp]
  refine lcomp hclos (by decide) rfl (by decide) (ldC c2 h1' ?_ hk hkt) (fun _ => rfl)
  refine iter_sub (hg _ _ e1) big (fun h2' k2 sz2 hit => ?_)
  dsimp only
  have hI : s.heap.objs.size = s.heap.objs.size := rfl
  have gI : g.get? s.heap.objs.size = none := hg.none (Nat.le_refl _)
  generalize hIe : s.heap.objs.size = I at *
  intro D C h3 hDe hCe k3 sz3 dD hC loop hloop
  subst hloop
  have hit3 : h3.IsKeyIter I d 0 es.length ep := let ⟨o, ho, q⟩ := hit; ⟨o, k3 _ _ ho, q⟩
  have gD : g.get? D = none := hg.none (by omega)
  have gC : g.get? C = none := hg.none (by omega)
  obtain ⟨kg, kt, kk, kv⟩ := key_kind (env := env) (cl := cl) (C := C) hk hkg hkt
  have F3 : Fz g s.heap g h3 C (fun _ => none) := ⟨⟨Sub.refl _, (hg.trans k2).trans k3, k2.trans k3, fun _ _ => rfl, by omega⟩, hC, by omega, gC⟩
  refine ⟨?_, fun _ => wpAny_pyIter_keyiter hit3 ⟨rfl, rfl⟩⟩
  refine codeAny_compLoop_tests (fun n s' => ∃ (i : Nat) (h' : Heap) (tk : Tok) (g' : Heap) (m' : Str → Option Value) (us : List Value) (nu : Nat), s' = { s with heap := h', toks := tk } ∧ Fz g s.heap g' h' C m' ∧ h'.get? D = some (listOf us.toArray nu) ∧
    us.length = ((σ.take i).filter (badB row)).length ∧ h'.IsKeyIter I d i es.length ep ∧ g'.get? D = none ∧ g'.get? I = none ∧ i ≤ σ.length ∧ n = σ.length + 1 - i) ?_ (σ.length + 1)
    ⟨0, h3, _, g, _, [], 0, rfl, F3, dD, rfl, hit3, gD, gI, Nat.zero_le _, rfl⟩
  rintro n s' ⟨i, h', tk, g', m', us, nu, rfl, F', hDl, hul, hit', oD, oI, hi, rfl⟩
  have hd' : h'.get? d = some (dictOf es ep) := F'.x.gh _ _ (F'.x.gg _ _ e1)
  have nCD : @Ne Nat C D := by omega
  have nDC : @Ne Nat D C := by omega
  have nID : @Ne Nat I D := by omega
  have nDI : @Ne Nat D I := by omega
  have nIC : @Ne Nat I C := by omega
  have nCI : @Ne Nat C I := by omega
  cases hx : σ[i]? with
  | none =>
    have hin : i = σ.length := by have : σ.length ≤ i := by simpa using hx
                                  omega
    subst hin
    rw [hes] at hit'
    refine next_sub_end hA hd' (by rw [hes]; exact hit') (fun h4 hx4 => ?_)
    have F4 := F'.hole (h' := h4) (D := I) (fun b o hb e => hx4 b o hb e) (by omega) oI nCI
    refine ⟨m', F4.ns, fun h5 hs5 => ?_⟩
    have x5 := F4.out hs5
    rw [List.take_length] at hul
    exact h g' h5 _ D x5 ⟨us.toArray, nu, (hs5.2 D nDC).trans (hx4 D _ nDI hDl), by rw [List.size_toArray]; exact hul⟩
  | some x =>
    obtain ⟨t, p⟩ := x
    have hlt : i < σ.length := (List.getElem?_eq_some_iff.mp hx).1
    obtain ⟨a, u, he, ha, hu⟩ := e2.at hx
    refine next_sub hd' hit' he (fun h4 hit4 sb4 => ?_)
    dsimp only at sb4 ⊢
    have F4 := F'.at sb4 (by omega) oI nCI
    refine wpAny_assign_Name (stZ (env := compEnvC keyScope cl C env) F4 (fun h5 F5 sb5 => ?_) rfl rfl kk)
    dsimp only at sb5 ⊢
    have hD5 := (sb5.2 D nDC).trans ((sb4.2 D nDI).trans hDl)
    have hit5 : h5.IsKeyIter I d (i + 1) es.length ep := let ⟨o, ho, r⟩ := hit4; ⟨o, (sb5.2 I nIC).trans ho, r⟩
    have G' := G.up F'.x.gg
    have hrow' := hrow.up F'.x.gg
    have hd2 := hd.up F'.x.gg
    have ha' := ha.up F'.x.gg
    obtain ⟨hok1, hok2⟩ := hok _ (List.mem_of_getElem? hx)
    refine wpAny_tests_one (wpAny_isTrue_Compare1 ?_)
    refine Subscript_ (ldC (c1.keeps F5.x.hh) h1 (Attribute_name (ldZ F5 rfl (tokZ (G'.k.keeps F5.x.gh) (ha'.up F5.x.gh) (fun tk1 tk2 => ?_)) rfl rfl kk)) rfl kg)
    refine itemZ (hrow'.up F5.x.gh) (List.getElem?_eq_getElem hok1) hr (fun tk3 => ?_)
    refine Call_Name rfl (nameG G' F5.x.gh (by k_is) (callWith_K G'.k (by k_is) (spliced_more (Subscript_ (ldC (c2.keeps F5.x.hh) h2 (ldZ F5 rfl ?_ rfl rfl kk) rfl kt)))) hgl rfl kv)
    refine tail_any (hd2.typeIs F5.x.gh) slot_dict_getitem.lookup ?_ (by with_unfolding_all rfl)
    refine get_sub G' F5.x.gh (hroom.le (by omega)) hd2 (.var ha') (sm _ (List.mem_of_getElem? hx)) (look_at nd hx) (fun h6 tk6 v6 x6 hv6 => ?_)
    have F6 := F5.ext x6
    have G6 := G'.up x6.gg
    refine spliced_more (ldC ((c1.keeps F5.x.hh).keeps x6.hh) h1 (spliced_none ?_) rfl kg)
    refine ⟨G6.k.keeps F6.x.gh, ?_⟩
    dsimp only [List.nil_append, List.cons_append]
    have dp := hroom.1
    refine value_spec G6 F6.x.gh (by omega) hv6 (hrow'.up x6.gg) hr hok2 (fun h7 tk7 tk8 x7 => ?_)
    have F7 := F6.ext x7
    refine ne_int (wpAny_truthy_bool ?_)
    have hb : (row[t] != p.val row) = badB row (t, p) := by
      show _ = !(row.getD t 0 == _)
      rw [List.getD_eq_getElem?_getD, List.getElem?_eq_getElem hok1]; rfl
    rw [hb]
    have tk1 : σ.take (i + 1) = σ.take i ++ [(t, p)] := by rw [List.take_add_one, hx]; rfl
    have ltD : @LT.lt Nat _ D h5.objs.size := Heap.lt_size hD5
    have ltI : @LT.lt Nat _ I h5.objs.size := let ⟨o, ho, _⟩ := hit5; Heap.lt_size ho
    have x67 := x6.trans x7
    have oD7 := (x67.new D ltD).trans oD
    have oI7 := (x67.new I ltI).trans oI
    have hD7 := x67.hh _ _ hD5
    have hit7 : h7.IsKeyIter I d (i + 1) es.length ep := let ⟨o, ho, r⟩ := hit5; ⟨o, x67.hh _ _ ho, r⟩
    have hul2 : ((σ.take i).filter (badB row)).length ≤ σ.length := Nat.le_trans (List.length_filter_le _ _) (by rw [List.length_take]; omega)
    cases hp : badB row (t, p) with
    | false =>
      simp only [Bool.false_eq_true, if_false]
      exact ⟨σ.length + 1 - (i + 1), by omega, i + 1, h7, _, _, _, us, nu, rfl, F7, hD7, by rw [tk1, filter_snoc, hp]; exact hul, hit7, oD7, oI7, hlt, rfl⟩
    | true =>
      simp only [if_true]
      refine ldZ F7 rfl ?_ rfl rfl kk
      refine append_at' hD7 (by omega) (fun h8 sb8 hd8 => ?_)
      dsimp only at sb8 ⊢
      have F8 := F7.at sb8 (by omega) oD7 nCD
      refine ⟨σ.length + 1 - (i + 1), by omega, i + 1, h8, _, _, _, _, _, rfl, F8, hd8, ?_, ?_, oD7, oI7, hlt, rfl⟩
      · rw [tk1, filter_snoc, hp, if_pos rfl, List.length_append, List.length_append, hul]; rfl
      · obtain ⟨o, ho, r⟩ := hit7
        exact ⟨o, (sb8.2 I nID).trans ho, r⟩
end
end Mine
end
section
open PySem PySem.W PySem.Calls PyProof.Rows
set_option maxRecDepth 100000
set_option maxHeartbeats 4000000
namespace Mine
/-- the scope of the comprehension whose variable is a cell -/
def rowScope : Scope := { kind := .function, names := [(Str.ofString ".0", .local), (Str.ofString "given", .cell), (Str.ofString "told", .free)], isGenerator := false, isCoroutine := false, more := [] }
section
variable {w : World} {mg mb : Str → Option Value} {A : Around} {E : Value → Shared → Prop} {s : Shared} {g : Heap} {env : Env}
theorem row_kind {cl : List (Str × Addr)} {C : Nat} (hk : env.scope.kind = .function) (ht : env.kindOf "told" = some .cell) :
    (compEnvC rowScope cl C env).kindOf "given" = some .cell ∧ (compEnvC rowScope cl C env).kindOf "told" = some .cell := by
  have e1 : (env.scope.kind == ScopeKind.function) = true := by rw [hk]; rfl
  have e3 : (env.kindOf "told" == some NameKind.cell) = true := by rw [ht]; rfl
  refine ⟨?_, ?_⟩ <;>
    · show List.lookup _ (List.map _ _) = _
      simp only [rowScope, List.map_cons, List.map_nil, e1, e3]
      rfl
theorem newEnv_row {M : Model} {cl : List (Str × Addr)} {Q : Env → Shared → Prop}
    (h : ∀ h', Sub s.heap h' → h'.objs.size = s.heap.objs.size + 2 → h'.Ns s.heap.objs.size (fun _ => none) → h'.IsCell (s.heap.objs.size + 1) none →
      Q (newEnv rowScope s.heap.objs.size env.globals (((Str.ofString "given"), s.heap.objs.size + 1) :: cl) env.qual none .none (some env) builtinsNs) { s with heap := h' }) :
    wpAny M A (newFunctionEnv rowScope env.globals cl [] env.qual none .none (some env)) Q E s := by
  simp only [newFunctionEnv, Option.isSome_some, if_true]
  refine wpAny_bind (wpAny_alloc ?_)
  refine wpAny_bind (wpAny_layCells _ (fun name kind cells => by cases hkc : kind == NameKind.cell <;> simp [hkc]) _ _ _ _ ?_)
  refine wpAny_bind ?_
  rw [List.forIn_nil]
  refine wpAny_pure (wpAny_pure ?_)
  have sz : (s.heap.push { cls := .type "dict", data := .dict #[] }).objs.size = s.heap.objs.size + 1 := Heap.size_push ..
  have nn : (s.heap.push { cls := .type "dict", data := .dict #[] }).Ns s.heap.objs.size (fun _ => none) := Heap.Ns.new s.heap (.type "dict")
  have k1 : Sub s.heap (s.heap.push { cls := .type "dict", data := .dict #[] }) := fun a o e => Heap.get?_push_of_some _ e
  dsimp only
  generalize s.heap.push { cls := .type "dict", data := .dict #[] } = h1 at *
  have := h (h1.push { cls := .type "cell", data := .cell none }) (k1.trans fun a o e => Heap.get?_push_of_some _ e) (by rw [Heap.size_push]; omega) (nn.keeps fun a o e => Heap.get?_push_of_some _ e) (by rw [← sz]; exact ⟨_, Heap.get?_push_size _ rfl, rfl⟩)
  rw [← sz] at this
  exact this
theorem cellcomp {iter c : Expr} {px epos : Pos} {cl : List (Str × Addr)} {pos : Pos} {g₀ h₀ : Heap} {L : Nat} {m : Str → Option Value} {cl' : List (Str × Addr)} {cm : Str → Option Value} {Q : Value → Shared → Prop} (nss : List (List Int)) (keep : List Int → Bool) {l : Nat}
    (G : Gd w mg mb g) (X : LF g₀ h₀ g s.heap L m cl' cm) (hA : A.handled = none) (hk : env.scope.kind = .function) (hkt : env.kindOf "told" = some .cell) (hclos : closureFor rowScope env = pure cl) (hlen : nss.length ≤ 100) (hf : ∀ x, foldedSetIterable iter env x = pure x)
    (hl : IsRows g l nss)
    (hiter : ∀ Q' : Value → Shared → Prop, Q' (.ref l) s → wpAny (model P0 w) A (eval iter env) Q' E s)
    (htest : ∀ (C K : Nat) s' g' (r : Nat) ns E', LF g₀ h₀ g' s'.heap L m cl' cm → Sub g g' → s'.heap.IsCell K (some (.ref r)) → IsInts g' r ns → ns ∈ nss → ∀ Q' : Bool → Shared → Prop, (∀ g'' h' tk, Ext g' s'.heap g'' h' → Q' (keep ns) { s' with heap := h', toks := tk }) →
      wpAny (model P0 w) A (isTrue c (compEnvC rowScope ((Str.ofString "given", K) :: cl) C env) (eval c (compEnvC rowScope ((Str.ofString "given", K) :: cl) C env))) Q' E' s')
    (h : ∀ g' h' tk (D C : Nat), LF g₀ h₀ g' h' L m cl' cm → Sub g g' → (∃ vs n, h'.get? D = some (listOf vs.toArray n) ∧ RowEnts g' vs (nss.filter keep)) → g'.get? D = none → @LE.le Nat _ s.heap.objs.size D →
      Q (.ref D) { s with heap := h', toks := tk }) :
    wpAny (model P0 w) A (eval (.ListComp (.Name "given" epos) [⟨.Name "given" px, iter, [c], 0⟩] rowScope pos) env) Q E s := by
  rw [arm_eval_ListComp]
  refine wpAny_comprehension_free rfl hf hclos rfl (by decide) (hiter _ ?_)
  obtain ⟨vs, nv, eL, hRe⟩ := hl
  have hL1 := X.F.x.gh _ _ eL
  refine wpAny_pyIter_list ⟨_, hL1, rfl, _, rfl⟩ ?_
  have k2 : Sub s.heap (s.heap.push { cls := .type "list_iterator", data := .fields #[.ref l, .int 0 0] }) := fun a o e => Heap.get?_push_of_some _ e
  have sz2 : (s.heap.push { cls := .type "list_iterator", data := .fields #[.ref l, .int 0 0] }).objs.size = s.heap.objs.size + 1 := Heap.size_push ..
  have dI : (s.heap.push { cls := .type "list_iterator", data := .fields #[.ref l, .int 0 0] }).IsListIter s.heap.objs.size l 0 := ⟨_, Heap.get?_push_size _ rfl, rfl, rfl⟩
  have X2 := X.keeps k2 (by omega)
  have gI : g.get? s.heap.objs.size = none := X.F.x.gh.none (Nat.le_refl _)
  have Llt : @LT.lt Nat _ L s.heap.objs.size := X.F.lt
  have cc : ∀ n c', cl'.lookup n = some c' → @LT.lt Nat _ c' s.heap.objs.size := fun n c' e => (X.cell n c' e).lt
  have hs0 := X.F.x.sz
  generalize s.heap.push { cls := .type "list_iterator", data := .fields #[.ref l, .int 0 0] } = h2 at *
  generalize hIe : s.heap.objs.size = I at *
  refine wpAny_newObj_type (newEnv_row (fun h3 k3 sz3 hC hK => ?_))
  have szP : (h2.push { cls := .type "list", dict := none, data := .seq ([] : List Value).toArray }).objs.size = h2.objs.size + 1 := Heap.size_push ..
  have dP : (h2.push { cls := .type "list", dict := none, data := .seq ([] : List Value).toArray }).get? h2.objs.size = some (listOf #[] 0) := Heap.get?_push_size _ rfl
  have kP : Sub h2 (h2.push { cls := .type "list", dict := none, data := .seq ([] : List Value).toArray }) := fun a o e => Heap.get?_push_of_some _ e
  have dD := k3 _ _ dP
  have k23 := kP.trans k3
  generalize h2.push { cls := .type "list", dict := none, data := .seq ([] : List Value).toArray } = hP at *
  generalize hDe : h2.objs.size = D at *
  generalize hCe : hP.objs.size = C at *
  generalize hKe : C + 1 = K at *
  have X3 := X2.keeps k23 (by omega)
  have gD : g.get? D = none := X2.F.x.gh.none (by omega)
  have gC : g.get? C = none := X2.F.x.gh.none (by omega)
  have gK : g.get? K = none := X2.F.x.gh.none (by omega)
  have dI3 : h3.IsListIter I l 0 := let ⟨o, ho, r⟩ := dI; ⟨o, k23 _ _ ho, r⟩
  have own := X.F.own
  have nD : ∀ n, cl'.lookup n ≠ some D := fun n e => by have := cc n D e; omega
  have nC : ∀ n, cl'.lookup n ≠ some C := fun n e => by have := cc n C e; omega
  have nK : ∀ n, cl'.lookup n ≠ some K := fun n e => by have := cc n K e; omega
  have nI : ∀ n, cl'.lookup n ≠ some I := fun n e => by have := cc n I e; omega
  obtain ⟨kg, kt⟩ := row_kind (env := env) (cl := (Str.ofString "given", K) :: cl) (C := C) hk hkt
  have hvl := hRe.len
  have nIC : @Ne Nat C I := by omega
  have nID : @Ne Nat D I := by omega
  have nIK : @Ne Nat K I := by omega
  have nCD : @Ne Nat D C := by omega
  have nCI : @Ne Nat I C := by omega
  have nDC : @Ne Nat C D := by omega
  have nDI : @Ne Nat I D := by omega
  have nDK : @Ne Nat K D := by omega
  have nKD : @Ne Nat D K := by omega
  have nKC : @Ne Nat C K := by omega
  have nKI : @Ne Nat I K := by omega
  have key : codeAny (model P0 w) A (.compLoop (.ListComp (.Name "given" epos) [⟨.Name "given" px, iter, [c], 0⟩] rowScope pos) 0 (.ref I) (.ref D) (compEnvC rowScope ((Str.ofString "given", K) :: cl) C env)) (compPost (model P0 w) A E none Q (.ref D) C) { s with heap := h3 } := by
    refine codeAny_compLoop_tests (fun n s' => ∃ (i : Nat) (h' : Heap) (tk : Tok) (g' : Heap) (v₀ : Option Value) (us : List Value) (nu : Nat), s' = { s with heap := h', toks := tk } ∧ LF g₀ h₀ g' h' L m cl' cm ∧ Sub g g' ∧ h'.get? D = some (listOf us.toArray nu) ∧ RowEnts g' us ((nss.take i).filter keep) ∧ h'.Ns C (fun _ => none) ∧ h'.IsCell K v₀ ∧
      h'.IsListIter I l i ∧ g'.get? D = none ∧ g'.get? C = none ∧ g'.get? I = none ∧ g'.get? K = none ∧ i ≤ nss.length ∧ n = nss.length + 1 - i) ?_ (nss.length + 1)
      ⟨0, h3, _, g, _, [], 0, rfl, X3, Sub.refl _, dD, .nil, hC, hK, dI3, gD, gC, gI, gK, Nat.zero_le _, rfl⟩
    rintro n s' ⟨i, h', tk, g', v₀, us, nu, rfl, X', sub, hDl, hE, hC', hK', hit, oD, oC, oI, oK, hi, rfl⟩
    have eL' : h'.IsList l vs.toArray := ⟨_, X'.F.x.gh _ _ (sub _ _ eL), rfl, _, rfl⟩
    cases hx : nss[i]? with
    | none =>
      have hin : i = nss.length := by have : nss.length ≤ i := by simpa using hx
                                      omega
      refine wpAny_pyNext_list_end hA hit eL' (by rw [List.getElem?_toArray]; exact List.getElem?_eq_none (by omega)) (fun h4 hx4 => ?_)
      have X4 := X'.hole (h' := h4) (D := I) hx4 (by omega) oI (by omega) nI
      have hC4 : h4.Ns C _ := hC'.at fun o e => hx4 C o nIC e
      have hD4 := hx4 D _ nID hDl
      rw [hin, List.take_length] at hE
      refine ⟨_, hC4, fun h5 sb5 => ?_⟩
      have X5 := X4.at sb5 (by omega) oC (by omega) nC
      exact h g' h5 _ D C X5 sub ⟨us, nu, (sb5.2 D nCD).trans hD4, hE⟩ oD (by omega)
    | some ns =>
      have hlt : i < nss.length := (List.getElem?_eq_some_iff.mp hx).1
      obtain ⟨r, hvr, hrow⟩ := hRe.at hx
      have hmem := List.mem_of_getElem? hx
      refine wpAny_pyNext_list_item hit eL' (by rw [List.getElem?_toArray]; exact hvr) (fun h4 hit4 sb4 => ?_)
      dsimp only at sb4 ⊢
      have X4 := X'.at sb4 (by omega) oI (by omega) nI
      have hK4 : h4.IsCell K v₀ := hK'.sameBut sb4 nIK
      refine wpAny_assign_Name (wpAny_storeName_cell (env := compEnvC rowScope ((Str.ofString "given", K) :: cl) C env) rfl kg rfl hK4 (fun h5 hK5 sb5 => ?_))
      dsimp only at sb5 ⊢
      have X5 := X4.at sb5 (by omega) oK (by omega) nK
      have hC5 : h5.Ns C _ := (hC'.sameBut sb4 nIC).sameBut sb5 nKC
      have hD5 := (sb5.2 D nKD).trans ((sb4.2 D nID).trans hDl)
      have hit5 : h5.IsListIter I l (i + 1) := let ⟨o, ho, r⟩ := hit4; ⟨o, (sb5.2 I nKI).trans ho, r⟩
      have tk1 : nss.take (i + 1) = nss.take i ++ [ns] := by rw [List.take_add_one, hx]; rfl
      refine wpAny_tests_one ?_
      refine htest C K _ g' r ns _ X5 sub hK5 (hrow.up sub) hmem _ (fun g6 h6 tk6 x6 => ?_)
      dsimp only at x6 ⊢
      have X6 := X5.ext x6
      have ltD : @LT.lt Nat _ D h5.objs.size := Heap.lt_size hD5
      have ltK : @LT.lt Nat _ K h5.objs.size := hK5.lt
      have ltI : @LT.lt Nat _ I h5.objs.size := let ⟨o, ho, _⟩ := hit5; Heap.lt_size ho
      have oD6 := (x6.new D ltD).trans oD
      have oC6 := (x6.new C hC5.lt).trans oC
      have oI6 := (x6.new I ltI).trans oI
      have oK6 := (x6.new K ltK).trans oK
      have hD6 := x6.hh _ _ hD5
      have hit6 : h6.IsListIter I l (i + 1) := let ⟨o, ho, r⟩ := hit5; ⟨o, x6.hh _ _ ho, r⟩
      cases hp : keep ns with
      | false =>
        simp only [Bool.false_eq_true, if_false]
        refine ⟨nss.length + 1 - (i + 1), by omega, i + 1, h6, _, g6, _, us, nu, rfl, X6, sub.trans x6.gg, hD6, ?_, hC5.keeps x6.hh, hK5.keeps x6.hh, hit6, oD6, oC6, oI6, oK6, hlt, rfl⟩
        rw [tk1, filter_snoc, hp]
        exact hE.up x6.gg
      | true =>
        simp only [if_true]
        refine ldC (env := compEnvC rowScope ((Str.ofString "given", K) :: cl) C env) (hK5.keeps x6.hh) rfl ?_ rfl kg
        have hul : us.length = ((nss.take i).filter keep).length := hE.len
        have hul2 : ((nss.take i).filter keep).length ≤ nss.length := Nat.le_trans (List.length_filter_le _ _) (by rw [List.length_take]; omega)
        refine append_at' hD6 (by omega) (fun h7 sb7 hd7 => ?_)
        dsimp only at sb7 ⊢
        have X7 := X6.at sb7 (by omega) oD6 (by omega) nD
        refine ⟨nss.length + 1 - (i + 1), by omega, i + 1, h7, _, g6, _, _, _, rfl, X7, sub.trans x6.gg, hd7, ?_, (hC5.keeps x6.hh).sameBut sb7 nDC, (hK5.keeps x6.hh).sameBut sb7 nDK, ?_, oD6, oC6, oI6, oK6, hlt, rfl⟩
        · rw [tk1, filter_snoc, hp]
          exact (hE.up x6.gg).snoc ((hrow.up sub).up x6.gg)
        · obtain ⟨o, ho, r⟩ := hit6
          exact ⟨o, (sb7.2 I nDI).trans ho, r⟩
  exact codeAny_compStart_list key (wpAny_pyIter_listiter dI3 key)
end
end Mine
end
section
open PySem PySem.W PySem.Calls PyProof.Rows PySem.SeqAt
set_option maxRecDepth 100000
set_option maxHeartbeats 4000000
namespace Mine
theorem sat_bad (σ : Sig) (row : List Int) : ((σ.filter (badB row)).length == 0) = satB σ row := by
  unfold satB
  induction σ with
  | nil => rfl
  | cons x r ih =>
    rw [List.filter_cons, List.all_cons]
    have e : badB row x = !(row.getD x.1 0 == x.2.val row) := rfl
    rw [e]
    cases hb : (row.getD x.1 0 == x.2.val row) with
    | true => simpa using ih
    | false => simp
section
variable {w : World} {mg mb : Str → Option Value} {A : Around} {E : Value → Shared → Prop} {s : Shared} {g : Heap} {env : Env}
theorem and2 {a b : Expr} {pos : Pos} {Q : Value → Shared → Prop} (h : wpAny (model P0 w) A (eval a env) (fun v s1 => wpAny (model P0 w) A (truthy v) (fun t s2 => if t = true then wpAny (model P0 w) A (eval b env) Q E s2 else Q v s2) E s1) E s) :
    wpAny (model P0 w) A (eval (.BoolOp .And [a, b] pos) env) Q E s := by
  rw [arm_eval_BoolOp]
  show wpAny _ _ (do
    let v ← eval a env
    standAt pos
    let t ← holding [v] (truthy v)
    match BoolOp.And, t with
    | .And, false | .Or, true => pure v
    | _, _ => eval b env) _ _ _
  refine wpAny_bind (wpAny_mono h (fun v s1 h1 => wpAny_bind (wpAny_standAt (wpAny_bind (wpAny_holding (wpAny_mono h1 (fun t s2 h2 => ?_) fun _ _ z => z))))) fun _ _ z => z)
  cases t with
  | false => exact wpAny_pure h2
  | true => exact h2
/-- list == [] -/
theorem list_eq_nil {a b : Nat} {vs : Array Value} {n n' : Nat} {Q : Value → Shared → Prop} (ha : s.heap.get? a = some (listOf vs n)) (hb : s.heap.get? b = some (listOf #[] n')) (hu : A.units < cLine) (h : Q (.bool (vs.size == 0)) s) :
    wpAny (model P0 w) A (compareOp .Eq (.ref a) (.ref b)) Q E s := by
  have la : s.heap.IsList a vs := ⟨_, ha, rfl, n, rfl⟩
  have lb : s.heap.IsList b #[] := ⟨_, hb, rfl, n', rfl⟩
  by_cases e : vs.size = 0
  · have e' : vs = #[] := Array.size_eq_zero_iff.mp e
    subst e'
    exact eq_listAt (e := fun _ => true) la lb rfl hu (fun j h1 h2 => by simp at h2) h
  · refine eq_list_lengthsAt la lb (by simpa using e) hu ?_
    rw [show (vs.size == 0) = false from by simpa using e] at h
    exact h
theorem Ext.more {g h g' h' h'' : Heap} (x : Ext g h g' h') (k : Sub h' h'') (sz : h'.objs.size ≤ h''.objs.size) : Ext g h g' h'' :=
  ⟨x.gg, x.gh.trans k, x.hh.trans k, x.new, Nat.le_trans x.sz sz⟩
end
end Mine
end
section
open PySem PySem.W PySem.Calls PyProof.Rows
set_option maxRecDepth 100000
set_option maxHeartbeats 4000000
namespace Mine
section
variable {w : World} {mg mb : Str → Option Value} {A : Around} {s : Shared}
theorem rowsL_len : ∀ r ∈ rowsL, r.length = 3 := by decide
theorem assign_used {x : Str} {xpos pos : Pos} {value : Expr} {env : Env} {E : Value → Shared → Prop} {Q : Flow → Shared → Prop} (hs : swapsWith value (some (.Name x xpos)) pos.line env = pure true)
    (h : wpAny (model P0 w) A (evalThenUse value env (assign (.Name x xpos) env)) (fun _ => Q .next) E s) : wpAny (model P0 w) A (exec (.Assign [.Name x xpos] value pos) env) Q E s := by
  rw [exec_Assign_Name_used _ _ _ _ hs]
  exact wpAny_bind (wpAny_standAt (wpAny_bind (wpAny_mono h (fun _ _ q => wpAny_pure q) fun _ _ z => z)))
theorem law_spec {l : Nat} {ns : List Int} {R : Result → Shared → Prop} (G : Gd w mg mb s.heap) (hroom : Rm 24 A) (hA : A.handled = none) (hfr : A.frames = some []) (hb : AllBare s.gens) (hl : IsInts s.heap l ns) (hn : ns.length ≤ 1000)
    (h : ∀ h' tk gn, Sub s.heap h' → AllBare gn → R (.ok (.ret (.bool true))) { s with heap := h', toks := tk, gens := gn }) :
    codeAny (model P0 w) A (.call (.ref 285) ⟨[.ref l], []⟩) R s := by
  have ok := tabs_ok ns
  have ok1 := one_tab ns
  have ok2 := two_tab ns
  refine callC G (Sub.refl _) hroom.depth (binds := [("script", .ref l)]) (by k_is) (by k_is) (BindsTo.of_eq rfl) (by intro n x hx; simp only [List.mem_cons, List.mem_nil_iff, or_false] at hx; subst hx; exact .inl rfl) (fun L h₁ tk X => ?_)
  dsimp only
  refine wpAny_execs_cons (wpAny_Assign_Name (wpAny_BinOp ?_))
  refine sliceUpto (hl.up X.F.x.gh) hn (fun Q' q => ldZ X.F rfl q) (fun _ _ => rfl) (fun h2 tk2 r2 k2 sz2 hr2 hi2 => ?_)
  dsimp only at k2 sz2 hr2 ⊢
  have X2 := X.keeps k2 (by omega)
  have hLs := X.F.lt
  refine Subscript_ ?_
  refine Call_Name rfl (nameG G X2.F.x.gh (by k_is) (callWith_K0 (G.k.keeps X2.F.x.gh) (by k_is) ?_))
  dsimp only [List.nil_append]
  refine numbers_spec G X2.F.x.gh hroom.deeper.depth (fun g3 h3 tk3 r3 x3 hi3 => ?_)
  have X3 := X2.ext x3
  have hs3 := x3.sz
  dsimp only at hs3 ⊢
  refine wpAny_Slice ?_
  show wpAny _ _ (eval (.Call _ _ _ _) _) _ _ _
  refine Call_Name rfl (nameB G (x3.gg.trans X3.F.x.gh) (by k_is) (by boot_fast) (by decide) (PyProof.Rows.callWith_builtin1 (spliced_more ?_)))
  have G3 := G.up X3.F.x.gg
  refine sliceUpto ((hl.up X3.F.x.gg).up X3.F.x.gh) hn (fun Q' q => ldZ X3.F rfl q) (fun _ _ => rfl) (fun h4 tk4 r4 k4 sz4 hr4 hi4 => spliced_none ?_)
  dsimp only at k4 sz4 hr4 ⊢
  have X4 := X3.keeps k4 (by omega)
  obtain ⟨vs4, hL4, hI4⟩ := hi4
  have ht4 : (ns.take 4).length ≤ 4 := by rw [List.length_take]; omega
  refine len_list hL4 (by rw [List.size_toArray, hI4.length]; omega) ?_
  rw [List.size_toArray, hI4.length]
  show wpAny _ _ (pure _) _ _ _
  refine wpAny_pure (wpAny_pure ?_)
  dsimp only
  have i3 : IsInts h4 r3 [96, 496, 256, 416] := hi3.up X4.F.x.gh
  have drop2 := fun (u : Tok) (tk5 : Tok) A1 QQ EE hq => dropAt (w := w) (A := A1) (E := EE) (s := { s with heap := h4, toks := tk5 }) (n := (ns.take 4).length) (u := u) (Q := QQ) i3 (by simp) hq
  refine tail_any (T := "list") (drop2 _ _ A (fun _ _ => True) (fun _ _ => True) (fun _ _ _ _ _ _ => trivial)).1 list_getitem_lookup ?_ (by with_unfolding_all rfl)
  refine (drop2 _ _ _ _ _ (fun h6 r6 k6 sz6 hr6 hi6 => ?_)).2
  dsimp only at k6 sz6 hr6 ⊢
  have X6 := X4.keeps k6 (by omega)
  have i2 : IsInts h6 r2 (ns.take 4) := ((hi2.up x3.hh).up k4).up k6
  refine addInts i2 hi6 (by rw [List.length_drop, List.length_take]; simp; omega) (fun h7 r7 k7 sz7 hr7 hi7 => ?_)
  dsimp only at k7 sz7 hr7 ⊢
  have X7 := X6.keeps k7 (by omega)
  have hn7 : IsInts h7 r7 (nums ns) := hi7
  have hs0 := X.F.x.sz
  have cc : ∀ n c, _ → @LT.lt Nat _ c h₁.objs.size := fun n c e => (X.cell n c e).lt
  obtain ⟨g8, X8, sub8, yes8, no8⟩ := X7.freeze (fun a => a = r7) (fun a ha => by rw [ha]; omega) (fun q => by have q' : @Eq Nat L _ := q; omega) (fun n c e q => by have := cc n c e; have q' : @Eq Nat c r7 := q; omega)
  have in8 : IsInts g8 r7 (nums ns) := by
    obtain ⟨vs, ⟨o, ho, r⟩, hI⟩ := hn7
    exact ⟨vs, ⟨o, (yes8 _ rfl).trans ho, r⟩, hI⟩
  refine stC X8 (x := "numbers") (c := L + 1) rfl (fun h9 X9 => ?_)
  dsimp only
  have G9 := (G.up X3.F.x.gg).up sub8
  have getk : ∀ k : Nat, k < 4 → (nums ns)[k]? = some ((nums ns).getD k 0) := fun k hk => by
    rw [List.getD_eq_getElem?_getD]
    have hlt : k < (nums ns).length := by rw [nums_len]; exact hk
    rw [List.getElem?_eq_getElem hlt]; rfl
  have kn : ∀ k : Int, k ∈ ([0, 1, 2, 3] : List Int) → ∃ i : Nat, k = i ∧ i < 4 := fun k hk => ⟨k.toNat, by simp at hk; omega, by simp at hk; omega⟩
  refine wpAny_execs_cons (wpAny_Assign_Name ?_)
  refine tabcomp [0, 1, 2, 3] (fun k => Int.fmod ((nums ns).getD k.toNat 0) 16 != 15) (fun k => toPart (Int.fmod (Int.fdiv ((nums ns).getD k.toNat 0) 16) 6)) G9 X9 hA rfl (by decide) rfl (by decide) rfl (by decide) (by decide) (fun _ => rfl) ?_ ?_ ?_ (fun g10 h10 tk10 d1 X10 sub10 T1 d1lo d1hi => ?_)
  · intro Q' hq
    refine wpAny_List (spliced_more (wpAny_Constant_int (spliced_more (wpAny_Constant_int (spliced_more (wpAny_Constant_int (spliced_more (wpAny_Constant_int (spliced_none ⟨by simp [sizeLine_eq], ?_⟩)))))))))
    refine hq _ _ h9.objs.size (fun a o e => Heap.get?_push_of_some _ e) (by dsimp only; rw [Heap.size_push]; omega) ⟨_, ⟨_, Heap.get?_push_size _ rfl, rfl, 0, rfl⟩, .cons _ _ (.cons _ _ (.cons _ _ (.cons _ _ .nil)))⟩
  · intro C s' g' m' k t E' X' sub hns hm hk Q' hq
    obtain ⟨i, rfl, hi⟩ := kn k hk
    refine wpAny_isTrue_Compare1 (wpAny_BinOp (Subscript_ (ldC (X'.cell "numbers" (L + 1) rfl) rfl (ldN hns hm ?_))))
    refine itemZ ((in8.up sub).up X'.F.x.gh) (getk i hi) (by rw [nums_len]; decide) (fun tk11 => ?_)
    refine wpAny_Constant_int (mod_int (by decide) (wpAny_Constant_int (ne_int (wpAny_truthy_bool ?_))))
    exact hq _
  · intro C s' g' m' k t E' X' sub hns hm hk hp Q' hq
    obtain ⟨i, rfl, hi⟩ := kn k hk
    have G' := G9.up sub
    refine Call_Name rfl (nameG G' X'.F.x.gh (by k_is) (callWith_K G'.k (by k_is) (spliced_more (wpAny_BinOp (wpAny_BinOp (Subscript_ (ldC (X'.cell "numbers" (L + 1) rfl) rfl (ldN hns hm ?_))))))))
    refine itemZ ((in8.up sub).up X'.F.x.gh) (getk i hi) (by rw [nums_len]; decide) (fun tk11 => ?_)
    refine wpAny_Constant_int (floordiv_int (by decide) (wpAny_Constant_int (mod_int (by decide) (spliced_none ?_))))
    refine ⟨G'.k.keeps X'.F.x.gh, ?_⟩
    dsimp only [List.nil_append]
    have dp := hroom.1
    refine part_spec G' X'.F.x.gh (by rw [depth_deeper]; omega) (fmod_lo _ (by decide)) (fun g12 h12 tk12 v x12 hv => ?_)
    exact hq g12 h12 _ v x12 hv
  dsimp only
  refine stC X10 (x := "one") (c := L + 2) rfl (fun h11 X11 => ?_)
  dsimp only
  have G11 := G9.up sub10
  have in11 := in8.up sub10
  have kn2 : ∀ k : Int, k ∈ ([3, 2, 1, 0] : List Int) → ∃ i : Nat, k = i ∧ i < 4 := fun k hk => ⟨k.toNat, by simp at hk; omega, by simp at hk; omega⟩
  refine wpAny_execs_cons (wpAny_Assign_Name ?_)
  refine tabcomp [3, 2, 1, 0] (fun k => Int.fmod ((nums ns).getD k.toNat 0) 16 != 14) (fun k => toPart (Int.fmod (Int.fdiv ((nums ns).getD k.toNat 0) 96) 6)) G11 X11 hA rfl (by decide) rfl (by decide) rfl (by decide) (by decide) (fun _ => rfl) ?_ ?_ ?_ (fun g20 h20 tk20 d2 X20 sub20 T2 d2lo d2hi => ?_)
  · intro Q' hq
    refine wpAny_List (spliced_more (wpAny_Constant_int (spliced_more (wpAny_Constant_int (spliced_more (wpAny_Constant_int (spliced_more (wpAny_Constant_int (spliced_none ⟨by simp [sizeLine_eq], ?_⟩)))))))))
    refine hq _ _ h11.objs.size (fun a o e => Heap.get?_push_of_some _ e) (by dsimp only; rw [Heap.size_push]; omega) ⟨_, ⟨_, Heap.get?_push_size _ rfl, rfl, 0, rfl⟩, .cons _ _ (.cons _ _ (.cons _ _ (.cons _ _ .nil)))⟩
  · intro C s' g' m' k t E' X' sub hns hm hk Q' hq
    obtain ⟨i, rfl, hi⟩ := kn2 k hk
    refine wpAny_isTrue_Compare1 (wpAny_BinOp (Subscript_ (ldC (X'.cell "numbers" (L + 1) rfl) rfl (ldN hns hm ?_))))
    refine itemZ ((in11.up sub).up X'.F.x.gh) (getk i hi) (by rw [nums_len]; decide) (fun tk11 => ?_)
    refine wpAny_Constant_int (mod_int (by decide) (wpAny_Constant_int (ne_int (wpAny_truthy_bool ?_))))
    exact hq _
  · intro C s' g' m' k t E' X' sub hns hm hk hp Q' hq
    obtain ⟨i, rfl, hi⟩ := kn2 k hk
    have G' := G11.up sub
    refine Call_Name rfl (nameG G' X'.F.x.gh (by k_is) (callWith_K G'.k (by k_is) (spliced_more (wpAny_BinOp (wpAny_BinOp (Subscript_ (ldC (X'.cell "numbers" (L + 1) rfl) rfl (ldN hns hm ?_))))))))
    refine itemZ ((in11.up sub).up X'.F.x.gh) (getk i hi) (by rw [nums_len]; decide) (fun tk11 => ?_)
    refine wpAny_Constant_int (floordiv_int (by decide) (wpAny_Constant_int (mod_int (by decide) (spliced_none ?_))))
    refine ⟨G'.k.keeps X'.F.x.gh, ?_⟩
    dsimp only [List.nil_append]
    have dp := hroom.1
    refine part_spec G' X'.F.x.gh (by rw [depth_deeper]; omega) (fmod_lo _ (by decide)) (fun g12 h12 tk12 v x12 hv => ?_)
    exact hq g12 h12 _ v x12 hv
  dsimp only at d2lo ⊢
  refine stC X20 (x := "two") (c := L + 3) rfl (fun h21 X21 => ?_)
  dsimp only
  have G21 := G11.up sub20
  have in21 := in11.up sub20
  have T1b := T1.up sub20
  have hne : d1 ≠ d2 := by
    intro q
    obtain ⟨o1, ho1, _⟩ := T1.obj
    have l1 : @LT.lt Nat _ d1 h11.objs.size := Heap.lt_size (X11.F.x.gh _ _ ho1)
    have q' : @Eq Nat d1 d2 := q
    omega
  change IsTab w g10 d1 (one ns) at T1
  change IsTab w g20 d1 (one ns) at T1b
  change IsTab w g20 d2 (two ns) at T2
  refine wpAny_execs_cons (wpAny_Assign_Name ?_)
  refine Call_Name rfl (nameG G21 X21.F.x.gh (by k_is) (callWith_K G21.k (by k_is) (spliced_more (ldC (X21.cell "one" (L + 2) rfl) rfl (spliced_more (ldC (X21.cell "two" (L + 3) rfl) rfl (spliced_none ?_)))))))
  refine ⟨G21.k.keeps X21.F.x.gh, ?_⟩
  dsimp only [List.nil_append, List.cons_append]
  have dp := hroom.1
  refine nomap_spec G21 X21.F.x.gh (hroom.deeper.le (by omega)) hA (Around.frames_deeper hfr) ?_ ?_ hb T1b T2 hne ok (fun g30 h30 tk30 gn30 told x30 hb30 hres => ?_)
  · intro e he
    rcases List.mem_singleton.mp he with rfl
    obtain ⟨o, es, ep, ho, hd, _⟩ := X21.F.ns
    exact ⟨(by intro q; have q' : ScopeKind.function = ScopeKind.module := q; cases q'), L, o, rfl, ho, fun vs q => by rw [hd] at q; cases q⟩
  · intro a ha
    rcases fr_cons rfl ha with rfl | ⟨e, he, _⟩
    · exact X21.F.off
    · cases he
  have X30 := X21.noted rfl x30
  dsimp only
  refine stC X30 (x := "told") (c := L + 4) rfl (fun h31 X31 => ?_)
  dsimp only
  have G31 := G21.up x30.gg
  have T1c := T1b.up x30.gg
  have T2c := T2.up x30.gg
  refine wpAny_execs_cons (assign_used (by rfl) ?_)
  rw [arm_evalThenUse_ListComp]
  refine wpAny_bind ?_
  refine lcomp rfl (by decide) rfl (by decide) ?_
  refine Call_Name rfl (nameB G31 X31.F.x.gh (by k_is) (by boot_fast) (by decide) (callWith_type1 (spliced_more (wpAny_Constant_int (spliced_none ?_)))))
  refine call_range_1 ?_
  refine wpAny_pyIter_range (IsRange.new _ _ _ _ _ _ _) (by decide) ?_
  have k32 : Sub h31 (h31.push { cls := .type "range", data := .fields #[.int 0 (tk30 + 1), .int 3 tk30, .int 1 (tk30 + 1 + 1)] }) := fun a o e => Heap.get?_push_of_some _ e
  have sz32 : (h31.push { cls := .type "range", data := .fields #[.int 0 (tk30 + 1), .int 3 tk30, .int 1 (tk30 + 1 + 1)] }).objs.size = h31.objs.size + 1 := Heap.size_push ..
  dsimp only
  generalize h31.push { cls := .type "range", data := .fields #[.int 0 (tk30 + 1), .int 3 tk30, .int 1 (tk30 + 1 + 1)] } = h32 at *
  have k33 : Sub h32 (h32.push { cls := .type "range_iterator", data := .fields #[rawInt 0, rawInt (Builtin.Range.rangeSize 0 3 1), rawInt 1] }) := fun a o e => Heap.get?_push_of_some _ e
  have sz33 : (h32.push { cls := .type "range_iterator", data := .fields #[rawInt 0, rawInt (Builtin.Range.rangeSize 0 3 1), rawInt 1] }).objs.size = h32.objs.size + 1 := Heap.size_push ..
  have hI33 : IsRangeIter (h32.push { cls := .type "range_iterator", data := .fields #[rawInt 0, rawInt (Builtin.Range.rangeSize 0 3 1), rawInt 1] }) h32.objs.size 0 3 1 := Heap.get?_push_size _ rfl
  generalize h32.push { cls := .type "range_iterator", data := .fields #[rawInt 0, rawInt (Builtin.Range.rangeSize 0 3 1), rawInt 1] } = h33 at *
  have X32 := X31.keeps k32 (by omega)
  have X33 := X32.keeps k33 (by omega)
  intro D C h34 hDe hCe k34 sz34 dD34 hC34 loop hloop
  subst hloop
  have X34 := X33.keeps k34 (by omega)
  have hL31 := X31.F.lt
  have hs31 := X31.F.x.sz
  have cc31 : ∀ n (c : Nat), (cellsFrom (L + 1) _ []).lookup n = some c → c < h31.objs.size := fun n c e => (X31.cell n c e).lt
  have hI34 : IsRangeIter h34 h32.objs.size 0 3 1 := k34 _ _ hI33
  have KF : RowFix s.heap L _ D C := ⟨by omega, hCe, by omega, fun n c e => by have := cc31 n c e; omega⟩
  refine ⟨?_, fun _ => wpAny_pyIter_rangeiter hI34 ⟨rfl, rfl⟩⟩
  refine rows_run (s := { s with heap := h34, gens := gn30, toks := _ }) G KF hA rfl rfl rfl rfl rfl rfl rfl rfl ⟨X34, ⟨[], 0, dD34, .nil⟩, hC34, X33.F.x.gh.none (by omega), X33.F.x.gh.none (by omega)⟩ hI34 ⟨by omega, by omega, by omega, by omega, fun n e => by have := cc31 n _ e; omega⟩ (X32.F.x.gh.none (Nat.le_refl _)) (fun g40 h40 tk40 mc40 S40 sub40 nw40 => ?_)
  show wpAny _ _ (assign (.Name "rows" _) _ (.ref D)) _ _ _
  refine wpAny_assign_Name (stZ S40.X.F (fun h41 F41 sb41 => ?_))
  dsimp only at sb41 ⊢
  have X41 := S40.X.set F41 sb41
  have nCL : @Ne Nat C L := by omega
  have nDL : @Ne Nat D L := by omega
  refine ⟨_, S40.ns.sameBut sb41 nCL, fun h42 sb42 => ?_⟩
  have X42 := X41.at sb42 (by omega) S40.oC (by omega) (KF.nc (by omega))
  obtain ⟨vsR, nR, eR, hRe⟩ := S40.lst
  have nDC : @Ne Nat D C := by omega
  have eR42 := (sb42.2 D nDC).trans ((sb41.2 D nDL).trans eR)
  obtain ⟨g43, X43, sub43, yes43, no43⟩ := X42.freeze (fun a => a = D) (fun a ha => by rw [ha]; omega) (fun q => by have q' : @Eq Nat L _ := q; omega) (fun n c e q => by have := KF.cD n c e; have q' : @Eq Nat c D := q; omega)
  have IR : IsRows g43 D rowsL := ⟨vsR, nR, (yes43 _ rfl).trans eR42, hRe.up sub43⟩
  have G43 := (G31.up sub40).up sub43
  have T1d := (T1c.up sub40).up sub43
  have T2d := (T2c.up sub40).up sub43
  have hres43 := (hres.up sub40).up sub43
  refine wpAny_pure ?_
  refine wpAny_execs_cons (assign_used (by rfl) ?_)
  rw [arm_evalThenUse_ListComp]
  refine wpAny_bind ?_
  refine filtcomp rowsL (fun ns' => fillB ns' (one ns) (two ns)) G43 X43 hA rfl (by decide) rfl (by decide) rfl (by decide) (fun _ => rfl) IR (fun Q' q => ldZ X43.F rfl q) ?_ (fun g50 h50 tk50 D5 C5 mC5 X50 sub50 hD5 oD5 oC5 hC5 lo5 hCe5 => ?_)
  · intro C s' g' m' r row E' X' sub hns hm hrow hmem Q' hq
    have hr3 := rowsL_len _ hmem
    have G' := G43.up sub
    refine wpAny_isTrue_Compare1 ?_
    refine Call_Name rfl (nameG G' X'.F.x.gh (by k_is) (callWith_K G'.k (by k_is) (spliced_more (ldC (X'.cell "one" (L + 2) rfl) rfl (spliced_more (ldN hns hm (spliced_none ?_)))))))
    refine ⟨G'.k.keeps X'.F.x.gh, ?_⟩
    dsimp only [List.nil_append, List.cons_append]
    refine filled_spec G' X'.F.x.gh (hroom.deeper.le (by omega)) hA (T1d.up sub) hrow (by omega) ok1.len ok1.nd (fun x hx t e => by have := ok1.vars x hx t e; omega) (fun g6 h6 tk6 a6 x6 fill6 => ?_)
    have X6 := X'.ext x6
    have G6 := G'.up x6.gg
    refine Call_Name rfl (nameG G6 X6.F.x.gh (by k_is) (callWith_K G6.k (by k_is) (spliced_more (ldC (X6.cell "two" (L + 3) rfl) rfl (spliced_more (ldN (hns.keeps x6.hh) hm (spliced_none ?_)))))))
    refine ⟨G6.k.keeps X6.F.x.gh, ?_⟩
    dsimp only [List.nil_append, List.cons_append]
    refine filled_spec G6 X6.F.x.gh (hroom.deeper.le (by omega)) hA ((T2d.up sub).up x6.gg) (hrow.up x6.gg) (by omega) ok2.len ok2.nd (fun x hx t e => by have := ok2.vars x hx t e; omega) (fun g7 h7 tk7 a7 x7 fill7 => ?_)
    have X7 := X6.ext x7
    dsimp only
    refine fill_eq (fill6.up x7.gg |>.up X7.F.x.gh) (fill7.up X7.F.x.gh) hroom.deeper.units (wpAny_truthy_bool ?_)
    exact hq g7 h7 _ (x6.trans x7)
  show wpAny _ _ (assign (.Name "due" _) _ (.ref D5)) _ _ _
  refine wpAny_assign_Name (stZ X50.F (fun h51 F51 sb51 => ?_))
  dsimp only at sb51 ⊢
  have X51 := X50.set F51 sb51
  have hL50 := X50.F.lt
  have nL5 : ∀ n (c : Nat), (cellsFrom (L + 1) _ []).lookup n = some c → @LT.lt Nat _ c D5 := fun n c e => by have := (X43.cell n c e).lt; have t : @LT.lt Nat _ c h42.objs.size := this; dsimp only at lo5; omega
  have hL43 : @LT.lt Nat _ L h42.objs.size := X43.F.lt
  have lo5' : @LE.le Nat _ h42.objs.size D5 := lo5
  have hCe5' : @Eq Nat C5 (D5 + 1) := hCe5
  have hs43 : @LE.le Nat _ s.heap.objs.size h42.objs.size := X43.F.x.sz
  have nC5 : @Ne Nat C5 L := by omega
  have nD5 : @Ne Nat D5 L := by omega
  have cc50 : ∀ n (c : Nat), (cellsFrom (L + 1) _ []).lookup n = some c → @LT.lt Nat _ c D5 := nL5
  refine ⟨_, hC5.sameBut sb51 nC5, fun h52 sb52 => ?_⟩
  have X52 := X51.at sb52 (by omega) oC5 (by omega) (fun n e => by have t : @LT.lt Nat _ C5 D5 := cc50 n C5 e; omega)
  obtain ⟨vs5, n5, e5, hRe5⟩ := hD5
  have nDC5 : @Ne Nat D5 C5 := by omega
  have e552 := (sb52.2 D5 nDC5).trans ((sb51.2 D5 nD5).trans e5)
  obtain ⟨g53, X53, sub53, yes53, no53⟩ := X52.freeze (fun a => a = D5) (fun a ha => by rw [ha]; omega) (fun q => by have q' : @Eq Nat L _ := q; omega) (fun n c e q => by have := cc50 n c e; have t : @LT.lt Nat _ c D5 := this; have q' : @Eq Nat c D5 := q; omega)
  have ID : IsRows g53 D5 (rowsL.filter fun ns' => fillB ns' (one ns) (two ns)) := ⟨vs5, n5, (yes53 _ rfl).trans e552, hRe5.up sub53⟩
  have G53 := (G43.up sub50).up sub53
  have hres53 := (hres43.up sub50).up sub53
  have IR53 := (IR.up sub50).up sub53
  refine wpAny_pure ?_
  refine wpAny_execs_cons (wpAny_If (wpAny_isTrue_Compare1 (ldC (X53.cell "told" (L + 4) rfl) rfl (wpAny_Constant_bool ?_))))
  have hu : A.units < cLine := hroom.units
  generalize hfin : fin (one ns) (two ns) = fi at hres53
  cases hres53 with
  | no =>
    refine bool_eq_false (wpAny_truthy_bool ?_)
    simp only [if_true]
    refine wpAny_execs_cons (wpAny_Return_some (wpAny_Compare1 (ldZ X53.F rfl (wpAny_List (spliced_none ⟨by simp [sizeLine_eq], ?_⟩)))))
    dsimp only
    rw [law_none hfin] at ID
    refine rows_eq_nil (ID.up (X53.F.x.gh.trans fun a o e => Heap.get?_push_of_some _ e)) (Heap.get?_push_size _ rfl) hroom.deeper.units ?_
    exact h _ _ _ (X53.F.x.hh.trans fun a o e => Heap.get?_push_of_some _ e) hb30
  | @some d σ hS =>
    refine dict_eq_false (hS.up X53.F.x.gh) hroom.deeper.units (wpAny_truthy_bool ?_)
    simp only [Bool.false_eq_true, if_false]
    refine wpAny_execs_nil ?_
    obtain ⟨hne0, heq0, htri, hlen0⟩ := law_some hfin
    refine wpAny_execs_cons (wpAny_Return_some (and2 (wpAny_Compare1 (ldZ X53.F rfl (wpAny_List (spliced_none ⟨by simp [sizeLine_eq], ?_⟩))))))
    dsimp only
    refine rows_ne_nil (ID.up (X53.F.x.gh.trans fun a o e => Heap.get?_push_of_some _ e)) (Heap.get?_push_size _ rfl) hroom.deeper.units (wpAny_truthy_bool ?_)
    rw [show (!(rowsL.filter fun ns' => fillB ns' (one ns) (two ns)).isEmpty) = true from by
      cases hq : (rowsL.filter fun ns' => fillB ns' (one ns) (two ns)) with
      | nil => exact absurd hq hne0
      | cons x r => rfl]
    simp only [if_true]
    have X54 := X53.keeps (h' := h52.push { cls := .type "list", data := .seq ([] : List Value).toArray }) (fun a o e => Heap.get?_push_of_some _ e) (by rw [Heap.size_push]; omega)
    refine wpAny_Compare1 (ldZ X54.F rfl ?_)
    refine cellcomp rowsL (satB σ) G53 X54 hA rfl rfl rfl (by decide) (fun _ => rfl) IR53 (fun Q' q => ldZ X54.F rfl q) ?_ (fun g60 h60 tk60 D6 C6 X60 sub60 hD6 oD6 lo6 => ?_)
    · intro C K s' g' r row E' X' sub hK hrow hmem Q' hq
      have hr3 := rowsL_len _ hmem
      have G' := G53.up sub
      refine wpAny_isTrue_Compare1 ?_
      refine keycomp (cg := K) (ct := L + 4) G' X'.F.x.gh hA (hroom.deeper.le (by omega)) (hS.up sub) (by omega) hrow (by omega) (fun x hx => ?_) rfl rfl rfl rfl rfl rfl rfl rfl hK (X'.cell "told" (L + 4) rfl) (fun g6 h6 tk6 D7 x6 hD7 => ?_)
      · obtain ⟨a, b⟩ := htri.ok x hx
        refine ⟨by omega, fun t e => ?_⟩
        rw [e] at b
        have b' : t < 3 := b
        omega
      obtain ⟨vs6, n6, e6, l6⟩ := hD7
      refine wpAny_List (spliced_none ⟨by simp [sizeLine_eq], ?_⟩)
      dsimp only
      refine list_eq_nil (Heap.get?_push_of_some _ e6) (Heap.get?_push_size _ rfl) hroom.deeper.units (wpAny_truthy_bool ?_)
      rw [l6, sat_bad]
      exact hq g6 _ _ (x6.more (fun a o e => Heap.get?_push_of_some _ e) (by rw [Heap.size_push]; omega))
    · dsimp only
      obtain ⟨vs6, n6, e6, hR6⟩ := hD6
      have du : A.units + 50 * 24 < cLine := hroom.2
      rw [heq0] at ID
      refine rows_eq (nss := rowsL.filter (satB σ)) ((ID.up sub60).up X60.F.x.gh) ⟨vs6, n6, e6, hR6.up X60.F.x.gh⟩ (by rw [units_deeper]; omega) (by rw [units_in1, units_deeper]; omega) ?_
      exact h _ _ _ X60.F.x.hh hb30
end
end Mine
end
section
open PySem PySem.W PySem.Calls PyProof.Rows
set_option maxRecDepth 100000
set_option maxHeartbeats 8000000
namespace Mine
theorem good_end {c : ClaimW} {cl : Str → Option Addr} {mean : ExcName → Option Value} {args : List WData} {s₁ : Shared} {h : Heap} {t : Nat} {gn : Array GenState}
    (k : Sub s₁.heap h) (hr : ∀ cls, c.raises args cls = false) (hp : c.post args (.bool true) args = true) (hb : AllBare gn) :
    GoodWG c cl mean args s₁ (.ok (.ret (.bool true))) { s₁ with heap := h, toks := t, gens := gn } :=
  ⟨.inl ⟨_, _, [], rfl, hr, ReadsW.bool true, hp, fun _ => ⟨List.nodup_nil, fun _ hm => nomatch hm⟩⟩, OldK.of_keep k, rfl, hb⟩
theorem caller_room : Rm 24 callerA := ⟨by decide +kernel, by decide +kernel⟩
end Mine
theorem PySem.Challenge.cw_fe0179_01_holds : PySem.Challenge.rw_fe0179_01.Holds := by
  refine Mine.hd ?_
  k_fill
  intro w s₀ s₁ mg mb G Y fa o pm cd doc dV kV ho hd hcd hD hmg hg args vals as hpre hlay hrd hwl hlo
  have KX := kIn_of Y
  have bt := (Ground.glob G (by first | k_qdec | decide +kernel) (by first | k_qdec | decide +kernel)).builtins
  refine Ground.open G ?_
  intro T B D TE TW
  have GD : Mine.Gd w mg mb s₁.heap := ⟨KX, T.g, T.b, bt, T.nolimit⟩
  have h285 : mg "law" = some (.ref 285) := mg_of KX T.g (by k_is)
  have hfa : fa = 285 := by
    have h2 : some (Value.ref fa) = some (Value.ref 285) := hmg.symm.trans h285
    cases h2
    rfl
  subst hfa
  wrow_args hpre hlay hrd hwl hlo
  refine enter_call ?_
  rename_i ns _ _ _ _ _ _ _ l vs _ hL _ _ _ hI _ hc _
  refine Mine.law_spec GD Mine.caller_room rfl rfl (.of_eq hg) ⟨vs, hL, hI⟩ ?_ ?_
  · omega
  · intro h' tk gn k hb
    exact Mine.good_end k (fun _ => rfl) (by wrow_post) hb
end
