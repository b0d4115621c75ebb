import PyProof.Rows.All
import Wide.All
import OpenK.AllK
import Wide.FinOn
import KE.KSuperObj
import KE.KFromBytes
import PySem.Challenge.RW_ny0099_01
set_option Elab.async false
set_option maxRecDepth 100000

-- part N0
section
open PySem PySem.W PySem.Calls PyProof.Rows
set_option Elab.async false
namespace Mine

abbrev pw : Program := PySem.Challenge.pw_ny0099_01
def stAt (i : Nat) : Stmt := (pw.main.body[i]?).getD (.Pass default)
def fnPar : Stmt → Arguments | .FunctionDef _ a _ _ _ _ _ _ _ _ => a | _ => default
def fnBody : Stmt → List Stmt | .FunctionDef _ _ b _ _ _ _ _ _ _ => b | _ => []
def fnScope : Stmt → Scope | .FunctionDef _ _ _ _ _ _ s _ _ _ => s | _ => default

def frs (outer : List Env) : List Addr := outer.filterMap (·.frame)

/-- what stands at a call: the frames outside, the base that stays -/
structure Bl (A : Around) (base : Heap) (outer : List Env) (h : Heap) : Prop where
  stack : A.frames = some outer
  stays : base.StaysIn h
  ff : h.FunFrames base outer
  size : base.objs.size ≤ h.objs.size

def Loc (l : List (Str × Value)) : Str → Option Value := fun x => l.lookup x
def putv (x : Str) (v : Value) : List (Str × Value) → List (Str × Value)
  | [] => [(x, v)]
  | (y, u) :: r => if y == x then (y, v) :: r else (y, u) :: putv x v r
theorem Loc_putv (x : Str) (v : Value) : ∀ l, Loc (putv x v l) = fun y => if y = x then some v else Loc l y
  | [] => by
    funext y
    unfold Loc putv
    rw [List.lookup_cons]
    by_cases h : y = x
    · subst h; simp
    · rw [beq_false_of_ne h, if_neg h]
  | (z, u) :: r => by
    funext y
    have ih := congrFun (Loc_putv x v r) y
    unfold Loc at ih ⊢
    unfold putv
    by_cases h : (z == x) = true
    · rw [if_pos h]
      obtain rfl := eq_of_beq h
      rw [List.lookup_cons, List.lookup_cons]
      by_cases q : y = z
      · subst q; simp
      · rw [beq_false_of_ne q, if_neg q]
    · rw [if_neg h, List.lookup_cons, List.lookup_cons]
      by_cases q : y = z
      · subst q
        have : y ≠ x := fun e => h (by rw [e]; exact beq_self_eq_true x)
        simp [this]
      · rw [beq_false_of_ne q]; exact ih

/-- a point in a def's body: L the frame, l its names, h₀ the heap at the call -/
structure Pt (h₀ base : Heap) (outer : List Env) (L : Addr) (h : Heap) (l : List (Str × Value)) : Prop where
  fr : Fr base L h (Loc l)
  ff : h.FunFrames base outer
  lt : ∀ b ∈ frs outer, b < L
  up : h₀.UpToSlots h
  new : h₀.objs.size ≤ L
theorem Pt.off {h₀ base h : Heap} {outer : List Env} {L : Addr} {l : List (Str × Value)} (P : Pt h₀ base outer L h l) : L ∉ frs outer := fun q => Nat.lt_irrefl _ (P.lt L q)

section
variable {h₀ base h h' : Heap} {outer : List Env} {L : Addr} {l l' : List (Str × Value)} {A : Around}

theorem ff_keeps (x : h.FunFrames base outer) (k : ∀ b o, h.get? b = some o → h'.get? b = some o) : h'.FunFrames base outer :=
  x.of_keeps fun b o e _ => ⟨o, k b o e, rfl⟩
theorem ff_slots (x : h.FunFrames base outer) (k : h.UpToSlots h') : h'.FunFrames base outer :=
  x.of_keeps fun b o e hn => let ⟨sl, q⟩ := k b o e hn; ⟨_, q, rfl⟩

theorem Pt.grow (P : Pt h₀ base outer L h l) (k : h.StaysIn h') : Pt h₀ base outer L h' l :=
  ⟨⟨P.fr.ns.keeps k, fun b o e => k b o (P.fr.keep b o e), P.fr.above⟩, ff_keeps P.ff k, P.lt, P.up.trans (.of_keeps k), P.new⟩
theorem ff_same {a : Addr} (off : a ∉ frs outer) (hs : Heap.ExtBut a h h') (ff : h.FunFrames base outer) : h'.FunFrames base outer := by
  induction outer with
  | nil => trivial
  | cons env rest ih =>
    obtain ⟨x, ⟨L₁, o, b, c, d, e⟩, r⟩ := ff
    have hne : L₁ ≠ a := fun q => off (by subst q; exact List.mem_filterMap.mpr ⟨env, .head _, b⟩)
    refine ⟨x, ⟨L₁, o, b, c, hs L₁ o hne d, e⟩, ih (fun q => off ?_) r⟩
    obtain ⟨x, hx, hq⟩ := List.mem_filterMap.mp q
    exact List.mem_filterMap.mpr ⟨x, .tail _ hx, hq⟩
theorem Pt.set (P : Pt h₀ base outer L h l) (hn : h'.Ns L (Loc l')) (hs : Heap.SameBut L h h') : Pt h₀ base outer L h' l' := by
  refine ⟨P.fr.set hn hs, ff_same P.off hs.extBut P.ff, P.lt, fun b o e hnf => ?_, P.new⟩
  · obtain ⟨sl, q⟩ := P.up b o e hnf
    exact ⟨sl, (hs.2 b (Nat.ne_of_lt (Nat.lt_of_lt_of_le (Heap.lt_size e) P.new))).trans q⟩

/-- an object made behind the frame is turned, and things are made -/
theorem Pt.upd (P : Pt h₀ base outer L h l) {a : Addr} (ha : L < a) (hs : Heap.ExtBut a h h') : Pt h₀ base outer L h' l := by
  refine ⟨⟨P.fr.ns.extBut hs (Nat.ne_of_lt ha), fun b o e => hs b o (Nat.ne_of_lt ?_) (P.fr.keep b o e), P.fr.above⟩, ff_same (fun q => ?_) hs P.ff, P.lt, fun b o e hnf => ?_, P.new⟩
  · exact Nat.lt_trans (Nat.lt_of_lt_of_le (Heap.lt_size e) P.fr.above) ha
  · exact Nat.lt_irrefl _ (Nat.lt_trans ha (P.lt a q))
  · obtain ⟨sl, q⟩ := P.up b o e hnf
    exact ⟨sl, hs b _ (Nat.ne_of_lt (Nat.lt_trans (Nat.lt_of_lt_of_le (Heap.lt_size e) P.new) ha)) q⟩
theorem Pt.lt_size (P : Pt h₀ base outer L h l) : L < h.objs.size := P.fr.ns.lt

/-- the base for a call within -/
def inner (h : Heap) (L : Addr) (outer : List Env) : Heap := hideAll h (L :: frs outer)

theorem Pt.bl (P : Pt h₀ base outer L h l) {env : Env} (hA : A.frames = some outer) (hf : env.frame = some L) (hk : env.scope.kind = .function := by rfl) :
    Bl (A.deeper env) (inner h L outer) (env :: outer) h := by
  have hin : ∀ e ∈ env :: outer, ∀ b, e.frame = some b → b ∈ L :: frs outer := fun e he b hb => by
    rcases List.mem_cons.mp he with rfl | he
    · rw [hf] at hb; cases hb; exact .head _
    · exact .tail _ (List.mem_filterMap.mpr ⟨e, he, hb⟩)
  refine ⟨Around.frames_deeper hA, fun b o e => of_hideAll _ e, ?_, Nat.le_of_eq (hideAll_size _ _)⟩
  have : h.FunFrames base (env :: outer) := by
    refine .cons (by rw [hk]; decide) hf P.fr.ns ?_ P.ff
    cases q : base.get? L with
    | none => rfl
    | some o => exact absurd (Nat.lt_of_lt_of_le (Heap.lt_size q) P.fr.above) (Nat.lt_irrefl _)
  exact funFrames_hide this hin

theorem Pt.base_in (P : Pt h₀ base outer L h l) : base.StaysIn (inner h L outer) := fun b o e => by
  refine hideAll_get _ (P.fr.keep b o e) fun hm => ?_
  rcases List.mem_cons.mp hm with rfl | hm
  · exact absurd (Nat.lt_of_lt_of_le (Heap.lt_size e) P.fr.above) (Nat.lt_irrefl _)
  · have := (P.ff.mem hm).1
    rw [e] at this; cases this

theorem Pt.inner_get (P : Pt h₀ base outer L h l) {a : Addr} {o : Obj} (ha : L < a) (e : h.get? a = some o) : (inner h L outer).get? a = some o := by
  refine hideAll_get _ e fun hm => ?_
  rcases List.mem_cons.mp hm with rfl | hm
  · exact Nat.lt_irrefl _ ha
  · exact Nat.lt_irrefl _ (Nat.lt_trans ha (P.lt a hm))

theorem Pt.back (P : Pt h₀ base outer L h l) (st : (inner h L outer).StaysIn h') (up : h.UpToSlots h') : Pt h₀ base outer L h' l :=
  ⟨⟨up.ns P.fr.ns, fun b o e => st b o (P.base_in b o e), P.fr.above⟩, ff_slots P.ff up, P.lt, P.up.trans up, P.new⟩

/-- what stands at a def's first line -/
theorem Bl.enter (B : Bl A base outer h) (hn : h'.Ns h.objs.size (Loc l)) (hk : ∀ b o, h.get? b = some o → h'.get? b = some o) : Pt h base outer h.objs.size h' l := by
  refine ⟨⟨hn, fun b o e => hk b o (B.stays b o e), B.size⟩, ff_keeps B.ff hk, fun b hm => ?_, .of_keeps hk, Nat.le_refl _⟩
  obtain ⟨_, o, e, _⟩ := B.ff.mem hm
  exact Heap.lt_size e
end

def Same (s s' : Shared) : Prop := s'.gens = s.gens ∧ s'.os = s.os
theorem Same.refl (s : Shared) : Same s s := ⟨rfl, rfl⟩
theorem Same.trans {a b c : Shared} (x : Same a b) (y : Same b c) : Same a c := ⟨y.1.trans x.1, y.2.trans x.2⟩

/-- the def number i of the top stands in the heap under its name -/
structure FnIn (mg : Str → Option Value) (h : Heap) (name : Str) (i : Nat) (f : Addr) : Prop where
  glob : mg name = some (.ref f)
  there : ∃ o pm cd doc, h.get? f = some o ∧ o.data = .func (docDef name (fnPar (stAt i)) (fnBody (stAt i)) (fnScope (stAt i)) pm cd doc) ∧ h.CodeRec cd name
theorem FnIn.keeps {mg : Str → Option Value} {h h' : Heap} {name : Str} {i : Nat} {f : Addr} (x : FnIn mg h name i f) (k : h.StaysIn h') : FnIn mg h' name i f :=
  let ⟨o, pm, cd, doc, a, b, c⟩ := x.there
  ⟨x.glob, o, pm, cd, doc, k _ _ a, b, c.keeps k⟩

section
variable {w : World} {A : Around} {E : Value → Shared → Prop} {s : Shared} {h₀ base : Heap} {outer : List Env} {L a : Addr} {cd : Value} {l : List (Str × Value)} {name : Str} {scope : Scope} {M : Model}

theorem ldL {x : Str} {pos : Pos} {v : Value} {Q : Value → Shared → Prop} (P : Pt h₀ base outer L s.heap l) (hv : Loc l x = some v) (h : Q v s)
    (hk : scope.kind = .function := by rfl) (hl : (envOf name scope L a cd).kindOf x = some .local := by rfl) (hd : (x == ("__debug__" : Str)) = false := by decide) :
    wpAny M A (eval (.Name x pos) (envOf name scope L a cd)) Q E s := ld P.fr hv h hk hl hd
theorem ldnL {x : Str} {v : Value} {Q : Value → Shared → Prop} (P : Pt h₀ base outer L s.heap l) (hv : Loc l x = some v) (h : Q v s)
    (hk : scope.kind = .function := by rfl) (hl : (envOf name scope L a cd).kindOf x = some .local := by rfl) :
    wpAny M A (loadName (envOf name scope L a cd) x) Q E s := ldn P.fr hv h hk hl
theorem stL {x : Str} {v : Value} {Q : Unit → Shared → Prop} (P : Pt h₀ base outer L s.heap l)
    (h : ∀ s', Same s s' → Heap.SameBut L s.heap s'.heap → Pt h₀ base outer L s'.heap (putv x v l) → Q () s')
    (hk : scope.kind = .function := by rfl) (hl : (envOf name scope L a cd).kindOf x = some .local := by rfl) :
    wpAny M A (storeName (envOf name scope L a cd) x v) Q E s :=
  wpAny_storeName_local hl P.fr.ns (fun h' hn hs => h _ ⟨rfl, rfl⟩ hs (P.set (by rw [Loc_putv]; exact hn) hs))
    (by show (scope.kind == .class || (scope.kind == .module && L != mainGlobals)) = false; rw [hk]; rfl)

theorem callF {R : Result → Shared → Prop} {mg : Str → Option Value} {i : Nat} {f : Addr} {args : Args} {binds : List (Str × Value)} {name : Str}
    (B : Bl A base outer s.heap) (hlim : base.NoLimit) (H : FnIn mg base name i f) (hroom : A.depth < recursionLimit)
    (hbind : ∀ pm cd doc, bindArgs (docDef name (fnPar (stAt i)) (fnBody (stAt i)) (fnScope (stAt i)) pm cd doc) args = pure binds)
    (hloc : ((binds.map (·.1)).all fun x => (fnScope (stAt i)).names.lookup x == some .local) = true)
    (h : ∀ s₁ L cd, Same s s₁ → Pt s.heap base outer L s₁.heap binds.reverse →
      wpAny (model pw w) (A.deeper (envOf name (fnScope (stAt i)) L f cd)) (execs (fnBody (stAt i)) (envOf name (fnScope (stAt i)) L f cd))
        (fun fl s' => R (.ok (.ret (match fl with | .ret v => v | _ => .none))) s')
        (fun e s' => wpAny (model pw w) (A.deeper (envOf name (fnScope (stAt i)) L f cd)) (leaving (envOf name (fnScope (stAt i)) L f cd) e)
          (fun _ s'' => R (.error e) s'') (fun e' s'' => R (.error e') s'') s') s₁)
    (hco : (fnScope (stAt i)).isCoroutine = false := by rfl) (hgen : (fnScope (stAt i)).isGenerator = false := by rfl) (hk : (fnScope (stAt i)).kind = .function := by rfl)
    (hcell : ∀ x ∈ (fnScope (stAt i)).names, x.2 ≠ .cell := by decide) :
    codeAny (model pw w) A (.call (.ref f) args) R s := by
  obtain ⟨o, pm, cd, doc, ho, hdat, hcd⟩ := H.there
  refine codeAny_call_function hroom (B.stays _ _ ho) hdat hco hgen rfl (hcd.keeps B.stays) ?_
  rw [hbind]
  have hloc' : ∀ x ∈ binds, (fnScope (stAt i)).names.lookup x.1 = some .local := fun x hx => by
    have := List.all_eq_true.mp hloc x.1 (List.mem_map_of_mem hx)
    exact eq_of_beq this
  refine wpAny_pure (wpAny_newFunctionEnv hcell hloc' (fun h₁ hns hsb => ⟨(hlim.keeps B.stays).fresh _ hsb, ?_⟩) hk)
  exact codeAny_func (h _ _ cd ⟨rfl, rfl⟩ (B.enter hns fun b o e => hsb.extBut b o (Nat.ne_of_lt (Heap.lt_size e)) (Heap.get?_push_of_some _ e)))
end
end Mine
end

-- part N1
section
open PySem PySem.W PySem.Calls PyProof.Rows
set_option Elab.async false
namespace Mine

section
variable {w : World} {A : Around} {E : Value → Shared → Prop} {s : Shared} {h₀ base h h' : Heap} {outer : List Env} {L a e : Addr} {cd : Value} {l : List (Str × Value)} {name : Str} {scope : Scope} {M : Model} {X : String}

theorem Pt.slots (P : Pt h₀ base outer L h l) (st : base.StaysIn h') (up : h.UpToSlots h') : Pt h₀ base outer L h' l :=
  ⟨⟨up.ns P.fr.ns, st, P.fr.above⟩, ff_slots P.ff up, P.lt, P.up.trans up, P.new⟩
theorem Pt.all (P : Pt h₀ base outer L h l) (hk : scope.kind = .function) : h.FunFrames base (envOf name scope L a cd :: outer) := by
  refine .cons (by show scope.kind ≠ .module; rw [hk]; decide) rfl P.fr.ns ?_ P.ff
  cases q : base.get? L with
  | none => rfl
  | some o => exact absurd (Nat.lt_of_lt_of_le (Heap.lt_size q) P.fr.above) (Nat.lt_irrefl _)

theorem noteFirst {Q : Unit → Shared → Prop} (hA : A.frames = some outer) (P : Pt h₀ base outer L h l) (hx : Heap.NewExc h s.heap e X)
    (k : ∀ h' a0, Heap.HeldW base (envOf name scope L a cd :: outer) e (.type X) a0 L h' → Pt h₀ base outer L h' l → Q () { s with heap := h' })
    (hk : scope.kind = .function := by rfl) :
    wpAny M (A.deeper (envOf name scope L a cd)) (noteFrame (.ref e) (envOf name scope L a cd)) Q E s := by
  obtain ⟨ob, t, he, hcls, hd⟩ := hx.there
  have hkb : base.StaysIn s.heap := fun b o q => hx.keeps b o (P.fr.keep b o q)
  have hen : base.get? e = none := by
    cases q : base.get? e with
    | none => rfl
    | some o => have := P.fr.keep e o q; rw [hx.new] at this; cases this
  unfold noteFrame
  simp only [show (envOf name scope L a cd).frame = some L from rfl]
  refine wpAny_bind (wpAny_field he hd (x := .none) (by simp) ?_)
  rw [if_neg (by decide)]
  refine wpAny_entryW (L := L) (Around.frames_deeper hA) (ff_keeps (P.all hk) hx.keeps) rfl he hkb hen hd (by simp) (a0 := t) (by simp) fun h' ⟨k1, k2, k3, k4⟩ => ?_
  have up : s.heap.UpToSlots h' := k4
  rw [hcls] at k3
  exact k h' t ⟨k1, hen, k2, k3⟩ (P.slots k1 ((Heap.UpToSlots.of_keeps hx.keeps).trans up))

theorem backHeld {env : Env} {cls a0 : Value} (hf : env.frame = some L) (H : Heap.HeldW base outer e cls a0 L s.heap)
    (k : ∀ h', Heap.HeldW base outer e cls a0 L h' → s.heap.UpToSlots h' → E (.ref e) { s with heap := h' }) : cameBackBy M A env E (.ref e) s := by
  obtain ⟨hkb, hen, hl, oe, vs, T, oT, ts, he, hcls, hd, h1, hnT, hTe, hT, hdT, h3⟩ := H
  have hsz3 : 3 < ts.size := (Array.getElem?_eq_some_iff.mp h3).1
  have other : ∀ b, b ≠ T → (s.heap.update T (Obj.mapFields (·.setIfInBounds 3 (rawInt L)))).get? b = s.heap.get? b :=
    fun b hb => Heap.get?_update_other _ _ (Ne.symm hb)
  have noRecord : ∀ b o, s.heap.get? b = some o → (∀ vs, o.data ≠ .fields vs) → b ≠ T := fun b o hb hnf q => by
    rw [q, hT] at hb; injection hb with hb; subst hb; exact hnf ts hdT
  unfold cameBackBy
  refine wpAny_bind (wpAny_field he hd h1 ?_)
  rw [if_neg (by simp)]
  show wpAny M A (setFlight (.ref e) env.frame) _ _ s
  rw [hf]
  unfold setFlight
  refine wpAny_bind (wpAny_field he hd h1 ?_)
  rw [if_pos (show (Value.ref T != Value.none) = true from by simp)]
  refine wpAny_setField hT hdT hsz3 (k _ ⟨fun b o hbo => (other b fun q => by rw [q, hnT] at hbo; cases hbo).trans (hkb b o hbo), hen,
    hl.of_keeps fun b o hb hnf => ⟨o, (other b (noRecord b o hb hnf)).trans hb, rfl⟩, ?_⟩ fun b o hb hnf => ⟨o.slots, (other b (noRecord b o hb hnf)).trans hb⟩)
  exact ⟨oe, vs, T, _, _, (other e (Ne.symm hTe)).trans he, hcls, hd, h1, hnT, hTe, Heap.get?_update_self _ hT (Obj.isFreed_of_fields (Obj.data_mapFields hdT _)), Obj.data_mapFields hdT _, by simp [hsz3]⟩

/-- the handler «except IndexError» and the like takes it -/
theorem caughtBy {X T' : String} {mg mb : Str → Option Value} {x : Str} {np pos : Pos} {b₀ : Stmt} {suite : List Stmt} {rest : List ExceptHandler} {Q : Flow → Shared → Prop} {a0 : Value}
    (H : Heap.HeldW base (envOf name scope L a cd :: outer) e (.type X) a0 L s.heap) (P : Pt h₀ base outer L s.heap l)
    (hg : base.Ns mainGlobals mg) (hmiss : mg x = none) (hb : base.Ns builtinsNs mb) (hv : mb x = some (.type T'))
    (hexc : isSubtype (.type T') (.type "BaseException") = pure true) (hnt : isSubtype (.type ((Manifest.find? T').elim "type" fun y => y.metatype)) (.type "tuple") = pure false) (hsub : isSubtype (.type X) (.type T') = pure true)
    (k : ∀ h' E', Pt h₀ base outer L h' l → wpAny (model pw w) ((A.deeper (envOf name scope L a cd)).mark (some (.ref e))) (execs (b₀ :: suite) (envOf name scope L a cd)) Q E' { s with heap := h' })
    (hk : scope.kind = .function := by rfl) (hx : (envOf name scope L a cd).kindOf x = some .globalImplicit := by rfl) (hd : (x == ("__debug__" : Str)) = false := by decide) :
    wpAny (model pw w) (A.deeper (envOf name scope L a cd)) (noteFrame (.ref e) (envOf name scope L a cd))
      (fun _ s₂ => wpAny (model pw w) (A.deeper (envOf name scope L a cd)) (setFlight (.ref e) none) (fun _ s₃ =>
        wpAny (model pw w) (A.deeper (envOf name scope L a cd)) (handleBy (.ref e) (envOf name scope L a cd) (.ExceptHandler (some (.Name x np)) none (b₀ :: suite) pos :: rest)) Q E s₃) E s₂) E s := by
  refine wpAny_noteFrame_againW rfl H.2.2.2 ?_
  refine wpAny_landsW H fun h₅ hfl hsm₅ => ?_
  have P₅ := P.slots hfl.1 hsm₅
  obtain ⟨ob, hob, hobc⟩ := hfl.there
  refine wpAny_handleBy_builtin (X := X) (T := T') (b := true) hexc hnt hsub (ld_builtin_at P₅.fr hg hmiss hb hv ⟨rfl, ⟨ob, hob, hobc⟩, ?_⟩ hk hx hd)
  rw [if_pos rfl]
  exact lands_againW hfl fun h₆ hfl₆ hsm₆ => k h₆ _ (P₅.slots hfl₆.1 hsm₆)
end
end Mine
end

-- part N2
section
open PySem PySem.W PySem.Calls PyProof.Rows
set_option Elab.async false
namespace Mine

/-- the addresses of the text's defs and sets -/
structure Ads where
  gi : Addr
  sp : Addr
  sc : Addr
  su : Addr
  sk : Addr
  sw : Addr
  pl : Addr
  lf : Addr
  lc : Addr
  ls : Addr
  ld : Addr
  lt : Addr
  la : Addr
  lw : Addr

def freeNames : List Str := ["len", "range", "sum", "min", "max", "frozenset", "IndexError", "ValueError"]

/-- what the top has left -/
structure Gl (mg mb : Str → Option Value) (ad : Ads) (h : Heap) : Prop where
  g : h.Ns mainGlobals mg
  b : h.Ns builtinsNs mb
  lim : h.NoLimit
  blt : ∀ x : Str, x ≠ "__name__" → mb x = bootBuiltins x
  free : ∀ x ∈ freeNames, mg x = none
  sp : FnIn mg h "_strip_padding" 3 ad.sp
  gi : FnIn mg h "_grouping_intervals" 2 ad.gi
  sc : FnIn mg h "skip_chars" 12 ad.sc
  su : FnIn mg h "skip_until" 13 ad.su
  sk : FnIn mg h "skip_comment" 14 ad.sk
  sw : FnIn mg h "skip_comments_and_array_ws" 15 ad.sw
  pl : FnIn mg h "parse_literal_str" 16 ad.pl
  lf : FnIn mg h "_law_field" 19 ad.lf
  lc : FnIn mg h "_law_cut" 20 ad.lc
  ls : FnIn mg h "_law_stripped" 21 ad.ls
  ld : FnIn mg h "_law_due" 22 ad.ld
  lt : FnIn mg h "_law_first" 23 ad.lt
  la : FnIn mg h "_law_asked" 24 ad.la
theorem Gl.keeps {mg mb : Str → Option Value} {ad : Ads} {h h' : Heap} (T : Gl mg mb ad h) (k : h.StaysIn h') : Gl mg mb ad h' :=
  ⟨T.g.keeps k, T.b.keeps k, T.lim.keeps k, T.blt, T.free, T.sp.keeps k, T.gi.keeps k, T.sc.keeps k, T.su.keeps k, T.sk.keeps k, T.sw.keeps k, T.pl.keeps k, T.lf.keeps k, T.lc.keeps k, T.ls.keeps k, T.ld.keeps k, T.lt.keeps k, T.la.keeps k⟩

/-- room for k defs more -/
structure Room (A : Around) (k : Nat) : Prop where
  handled : A.handled = none
  depth : A.depth + k < recursionLimit
  units : A.units + 10 * k < cLine
theorem Room.deeper {A : Around} {k : Nat} (R : Room A (k + 1)) (env : Env) : Room (A.deeper env) k :=
  ⟨R.handled, by have := R.depth; show A.depth + 1 + k < _; omega, by have := R.units; show A.units + 3 + 10 * k < _; omega⟩
theorem Room.less {A : Around} {k j : Nat} (R : Room A k) (h : j ≤ k) : Room A j :=
  ⟨R.handled, by have := R.depth; omega, by have := R.units; omega⟩

/-- a def comes back with a value; what stood, stays -/
def Ret (base : Heap) (s : Shared) (P : Value → Heap → Prop) (r : Result) (s' : Shared) : Prop :=
  ∃ v, r = .ok (.ret v) ∧ base.StaysIn s'.heap ∧ s.heap.UpToSlots s'.heap ∧ Same s s' ∧ P v s'.heap
/-- a def raises X -/
def Rai (base : Heap) (outer : List Env) (X : String) (s : Shared) (r : Result) (s' : Shared) : Prop :=
  ∃ e a0, r = .error (.ref e) ∧ Heap.FlyingW base outer e (.type X) a0 s'.heap ∧ s.heap.UpToSlots s'.heap ∧ Same s s'

theorem keptStays {h : Heap} : KeptH (fun h' => h.StaysIn h') := fun _ ob k b o e => Heap.get?_push_of_some ob (k b o e)

section
variable {w : World} {A : Around} {E : Value → Shared → Prop} {s : Shared} {h₀ base h h' : Heap} {outer : List Env} {L a e : Addr} {cd : Value} {l : List (Str × Value)} {name : Str} {scope : Scope} {M : Model}
  {mg mb : Str → Option Value} {ad : Ads}

theorem ldB {x : Str} {pos : Pos} {v : Value} {Q : Value → Shared → Prop} (T : Gl mg mb ad base) (P : Pt h₀ base outer L s.heap l) (hv : bootBuiltins x = some v) (h : Q v s)
    (hf : x ∈ freeNames := by decide) (hn : x ≠ "__name__" := by decide)
    (hk : scope.kind = .function := by rfl) (hx : (envOf name scope L a cd).kindOf x = some .globalImplicit := by rfl) (hd : (x == ("__debug__" : Str)) = false := by decide) :
    wpAny M A (eval (.Name x pos) (envOf name scope L a cd)) Q E s := ld_builtin_at P.fr T.g (T.free x hf) T.b ((T.blt x hn).trans hv) h hk hx hd
theorem ldG {x : Str} {pos : Pos} {v : Value} {Q : Value → Shared → Prop} (T : Gl mg mb ad base) (P : Pt h₀ base outer L s.heap l) (hv : mg x = some v) (h : Q v s)
    (hk : scope.kind = .function := by rfl) (hx : (envOf name scope L a cd).kindOf x = some .globalImplicit := by rfl) (hd : (x == ("__debug__" : Str)) = false := by decide) :
    wpAny M A (eval (.Name x pos) (envOf name scope L a cd)) Q E s := ld_global_at P.fr T.g hv h hk hx hd
end

/-! ## calls -/
def isStar : Expr → Bool | .Starred .. => true | _ => false
def noStar : List Expr → Bool | [] => true | e :: r => !isStar e && noStar r
theorem star_cons {e : Expr} {rest : List Expr} {env : Env} (h : isStar e = false) : starEach (e :: rest) env = (false, eval e env) :: starEach rest env := by
  cases e <;> first | rfl | cases h
theorem star_any {pos : Pos} {env : Env} : ∀ {rest : List Expr}, noStar rest = true → (backTo pos (starEach rest env)).any (·.1) = false
  | [], _ => rfl
  | e :: r, h => by
    simp only [noStar, Bool.and_eq_true, Bool.not_eq_true'] at h
    rw [star_cons h.1]
    have := star_any (pos := pos) (env := env) h.2
    unfold backTo at this ⊢
    simpa using this
section
variable {M : Model} {A : Around} {E : Value → Shared → Prop} {s : Shared} {env : Env}
theorem aC {e : Expr} {rest : List Expr} {pos : Pos} {Q : List Value → Shared → Prop}
    (h : wpAny M A (eval e env) (fun v s₁ => wpAny M A (spliced (backTo pos (starEach rest env))) (fun vs s₂ => Q (v :: vs) s₂) E s₁) E s)
    (he : isStar e = false := by rfl) : wpAny M A (spliced (backTo pos (starEach (e :: rest) env))) Q E s := args_cons h (star_cons he)
theorem cT {pos : Pos} {T : String} {e : Expr} {rest : List Expr} {Q : Value → Shared → Prop}
    (h : wpAny M A (spliced (backTo pos (starEach (e :: rest) env))) (fun vs s₁ => wpAny M A (call (.type T) vs) Q E s₁) E s)
    (he : noStar (e :: rest) = true := by rfl) : wpAny M A (callWith pos (.type T) [] (backTo pos (starEach (e :: rest) env)) []) Q E s := by
  simp only [noStar, Bool.and_eq_true, Bool.not_eq_true'] at he
  exact callWith_type1 h (star_cons he.1) (star_any he.2)
theorem cB {pos : Pos} {id : String} {e : Expr} {rest : List Expr} {Q : Value → Shared → Prop}
    (h : wpAny M A (spliced (backTo pos (starEach (e :: rest) env))) (fun vs s₁ => wpAny M A (call (.builtin id) vs) Q E s₁) E s)
    (he : noStar (e :: rest) = true := by rfl) : wpAny M A (callWith pos (.builtin id) [] (backTo pos (starEach (e :: rest) env)) []) Q E s := by
  simp only [noStar, Bool.and_eq_true, Bool.not_eq_true'] at he
  exact callWith_builtin1 h (star_cons he.1) (star_any he.2)
theorem cD {pos : Pos} {f : Addr} {o : Obj} {fd : FuncData} {e : Expr} {rest : List Expr} {Q : Value → Shared → Prop} (hdat : o.data = .func fd)
    (h : wpAny M A (spliced (backTo pos (starEach (e :: rest) env))) (fun vs s₁ => s₁.heap.get? f = some o ∧ wpAny M A (call (.ref f) vs) Q E s₁) E s)
    (he : isStar e = false := by rfl) : wpAny M A (callWith pos (.ref f) [] (backTo pos (starEach (e :: rest) env)) []) Q E s := callWith_def hdat h (star_cons he)
end

/-! ## blanks -/
def lead (xs : List Nat) : Nat := (xs.takeWhile (· == 32)).length
theorem lead_le (xs : List Nat) : lead xs ≤ xs.length := by
  unfold lead
  induction xs with
  | nil => simp
  | cons a r ih =>
    rw [List.takeWhile_cons]
    split <;> simp <;> omega
theorem lead_get : ∀ (xs : List Nat) (i : Nat), i < lead xs → xs[i]? = some 32
  | [], i, h => by simp [lead] at h
  | a :: r, i, h => by
    unfold lead at h
    rw [List.takeWhile_cons] at h
    by_cases q : (a == 32) = true
    · rw [if_pos q] at h
      cases i with
      | zero => simpa using eq_of_beq q
      | succ i => simpa using lead_get r i (by unfold lead; simpa using h)
    · rw [if_neg q] at h; simp at h
theorem lead_stop : ∀ (xs : List Nat), xs[lead xs]? ≠ some 32
  | [] => by simp
  | a :: r => by
    unfold lead
    rw [List.takeWhile_cons]
    by_cases q : (a == 32) = true
    · rw [if_pos q]
      have := lead_stop r
      unfold lead at this
      simpa using this
    · rw [if_neg q]
      simp at q ⊢; exact q

theorem seqIndex_nat (i n : Nat) (h : i < n) : seqIndex? (i : Int) n = some i := by
  unfold seqIndex?
  have h0 : ¬ ((i : Int) < 0) := by omega
  have h1 : (0 ≤ (i : Int)) ∧ (i : Int) < n := by omega
  simp [h0]
  omega
theorem item_nat (x : Str) (i : Nat) (h : i < x.length) : Txt.item x (i : Int) = ⟨#[x.cps.toList[i]?.getD 0]⟩ := by
  unfold Txt.item Txt.charAt
  rw [seqIndex_nat i x.length h]
  simp
theorem beq_blank (c : Nat) : ((⟨#[c]⟩ : Str) == Str.ofString " ") = (c == 32) := by
  have : Str.ofString " " = ⟨#[32]⟩ := by decide
  rw [this]
  by_cases h : c = 32
  · subst h; decide
  · have h1 : (⟨#[c]⟩ : Str) ≠ ⟨#[32]⟩ := fun e => h (by injection e with e; injection e with e; injection e)
    rw [beq_false_of_ne h1, beq_false_of_ne h]
end Mine
end

-- part Q0
section
open PySem PySem.W PySem.Calls PyProof.Rows
set_option Elab.async false
namespace Mine

def clipN (v : Int) (n : Nat) : Nat := (max 0 (min (if v < 0 then v + n else v) n)).toNat
def loOf (l : Option Int) (n : Nat) : Nat := match l with | none => 0 | some v => clipN v n
def hiOf (u : Option Int) (n : Nat) : Nat := match u with | none => n | some v => clipN v n

theorem filterMap_range (xs : List Nat) : ∀ (c lo : Nat), lo + c ≤ xs.length → ((List.range c).map (fun k => lo + k)).filterMap (xs[·]?) = (xs.drop lo).take c
  | 0, lo, _ => by simp
  | c + 1, lo, h => by
    rw [List.range_succ_eq_map, List.map_cons, List.map_map]
    have e : (List.range c).map ((fun k => lo + k) ∘ Nat.succ) = (List.range c).map (fun k => (lo + 1) + k) := by
      apply List.map_congr_left; intro a _; simp only [Function.comp]; omega
    rw [e, List.filterMap_cons]
    have h1 : lo < xs.length := by omega
    rw [show xs[lo + 0]? = some xs[lo] from by simp [h1]]
    simp only
    rw [filterMap_range xs c (lo + 1) (by omega), List.drop_eq_getElem_cons h1, List.take_succ_cons]

theorem indices_eq (l u : Option Int) (n : Nat) : Builtin.Str.strSliceIndices l u 1 n = (List.range (hiOf u n - loOf l n)).map (fun k => loOf l n + k) := by
  unfold Builtin.Str.strSliceIndices sliceRange
  have key : ∀ (lo hi : Int) (a b : Nat), lo = a → hi = b → (List.range (if (1 : Int) > 0 then (if lo < hi then (hi - lo + 1 - 1) / 1 else 0) else (if lo > hi then (lo - hi - 1 - 1) / (-1) else 0)).toNat).map (fun (k : Nat) => (lo + 1 * (k : Int)).toNat)
      = (List.range (b - a)).map (fun k => a + k) := by
    intro lo hi a b ha hb
    subst ha hb
    have : (if (1 : Int) > 0 then (if (a : Int) < b then ((b : Int) - a + 1 - 1) / 1 else 0) else (if (a : Int) > b then ((a : Int) - b - 1 - 1) / (-1) else 0)).toNat = b - a := by
      rw [if_pos (by decide)]
      split <;> omega
    rw [this]
    apply List.map_congr_left
    intro k _
    omega
  cases l <;> cases u <;> (simp only [show (1 : Int) > 0 from by decide, if_true]; refine key _ _ _ _ ?_ ?_ <;> (simp only [loOf, hiOf, clipN] <;> omega))

theorem slice_eq (x : Str) (l u : Option Int) : Txt.slice x l u = ⟨((x.cps.toList.take (hiOf u x.length)).drop (loOf l x.length)).toArray⟩ := by
  have hn : x.cps.toList.length = x.length := by simp [Str.length]
  have hh : hiOf u x.length ≤ x.length := by
    cases u <;> simp only [hiOf, clipN] <;> omega
  have hlo : loOf l x.length ≤ x.length := by
    cases l <;> simp only [loOf, clipN] <;> omega
  have e : ((Builtin.Str.strSliceIndices l u 1 x.length).filterMap (x.cps[·]?)) = (x.cps.toList.take (hiOf u x.length)).drop (loOf l x.length) := by
    rw [indices_eq]
    have e1 : (fun i : Nat => x.cps[i]?) = fun i => x.cps.toList[i]? := by funext i; simp
    by_cases q : loOf l x.length ≤ hiOf u x.length
    · rw [e1, filterMap_range _ _ _ (by omega), List.drop_take]
    · rw [show hiOf u x.length - loOf l x.length = 0 by omega]
      simp only [List.range_zero, List.map_nil, List.filterMap_nil]
      rw [eq_comm, List.drop_eq_nil_iff, List.length_take]; omega
  unfold Txt.slice
  split
  · rename_i h
    simp only [beq_self_eq_true, Bool.true_and, beq_iff_eq] at h
    rw [indices_eq] at h
    simp only [List.length_map, List.length_range] at h
    have h1 : loOf l x.length = 0 ∧ hiOf u x.length = x.length ∨ x.length = 0 := by omega
    have : (x.cps.toList.take (hiOf u x.length)).drop (loOf l x.length) = x.cps.toList := by
      rcases h1 with ⟨a, b⟩ | h0
      · rw [a, b, ← hn, List.take_length, List.drop_zero]
      · have : x.cps.toList = [] := List.length_eq_zero_iff.mp (hn.trans h0)
        rw [this]; simp
    rw [this]
  · rw [e]
end Mine
end

-- part N3
section
open PySem PySem.W PySem.Calls PyProof.Rows
set_option Elab.async false
namespace Mine

def stIn (i j : Nat) : Stmt := ((fnBody (stAt i))[j]?).getD (.Pass default)

/-- how many blanks go, of n that stand there -/
def takes (k : Int) (n : Nat) : Nat := if 0 ≤ k ∧ k ≤ n then k.toNat else n
theorem takes_le (k : Int) (n : Nat) : takes k n ≤ n := by unfold takes; split <;> omega

def stripOf (xs : List Nat) (k : Int) : Option (List Nat) :=
  if k - takes k (lead xs) ≠ 0 ∧ lead xs = xs.length then none
  else some ((xs.take (xs.length - takes (k - takes k (lead xs)) (lead xs.reverse))).drop (takes k (lead xs)))

theorem fits_small {i : Int} (h1 : -100000 ≤ i) (h2 : i ≤ 100000) : fitsSsize i = true := by unfold fitsSsize; simp; omega
theorem item_blank {x : Str} {i : Nat} (h : i < x.length) : (Txt.item x (i : Int) == Str.ofString " ") = (x.cps.toList[i]? == some 32) := by
  rw [item_nat x i h, beq_blank]
  have : i < x.cps.toList.length := by simpa [Str.length] using h
  rw [List.getElem?_eq_getElem this]
  simp

section
variable {w : World} {A : Around} {s : Shared} {h₀ base : Heap} {outer : List Env} {mg mb : Str → Option Value} {ad : Ads} {L f : Addr} {cd : Value}

abbrev envS (L f : Addr) (cd : Value) : Env := envOf "_strip_padding" (fnScope (stAt 3)) L f cd

theorem leavesHeld {M : Model} {A : Around} {E : Value → Shared → Prop} {env : Env} {e : Addr} {cls a0 : Value} {Q : Unit → Shared → Prop} (hf : env.frame = some L) (H : Heap.HeldW base (env :: outer) e cls a0 L s.heap)
    (k : ∀ h', Heap.FlyingW base outer e cls a0 h' → s.heap.UpToSlots h' → Q () { s with heap := h' }) : wpAny M A (leaving env (.ref e)) Q E s := by
  unfold leaving
  refine wpAny_bind (wpAny_noteFrame_againW hf H.2.2.2 ?_)
  refine wpAny_landsW H fun h' hfl up => ?_
  obtain ⟨k1, k2, ⟨_, _, k3⟩, k4⟩ := hfl
  exact k h' ⟨k1, k2, k3, k4⟩ up

theorem sp_while1 (hA : A.frames = some outer) (R : Room (A.deeper (envS L f cd)) 1) {x : Str} {t : Tok} {k : Int} {u t0 : Tok} (hx : x.length ≤ 4000)
    (P : Pt h₀ base outer L s.heap [("amount", .int k u), ("s", .str x t), ("lpos", .int 0 t0)]) :
    wpAny (model pw w) (A.deeper (envS L f cd)) (exec (stIn 3 1) (envS L f cd))
      (fun fl s' => fl = .next ∧ ∃ t1 t2, Pt h₀ base outer L s'.heap [("amount", .int (k - takes k (lead x.cps.toList)) t1), ("s", .str x t), ("lpos", .int (takes k (lead x.cps.toList) : Nat) t2)] ∧ Same s s' ∧
        (k - takes k (lead x.cps.toList) = 0 ∨ lead x.cps.toList < x.length))
      (fun v s' => k - takes k (lead x.cps.toList) ≠ 0 ∧ lead x.cps.toList = x.length ∧ ∃ e a0, v = .ref e ∧ Heap.HeldW base (envS L f cd :: outer) e (.type "IndexError") a0 L s'.heap ∧ h₀.UpToSlots s'.heap ∧ Same s s') s := by
  have hn : x.cps.toList.length = x.length := by simp [Str.length]
  have hle := lead_le x.cps.toList
  refine wpAny_While ?_
  refine codeAny_whileLoop (I := fun n s' => ∃ (j : Nat) (t1 t2 : Tok), Pt h₀ base outer L s'.heap [("amount", .int (k - j) t1), ("s", .str x t), ("lpos", .int j t2)] ∧ Same s s' ∧ j + n = lead x.cps.toList ∧ (0 ≤ k → (j : Int) ≤ k))
    (fun n s₃ hI => ?_) (lead x.cps.toList) ⟨0, u, _, by rw [show k - ((0 : Nat) : Int) = k from by simp]; exact P, Same.refl _, by omega, fun h => h⟩
  obtain ⟨j, t1, t2, P₃, S₃, hj, hk⟩ := hI
  refine isTrue_and (isTrue_plain (ldL P₃ rfl (truthy_int ?_)))
  by_cases hz : k - (j : Int) = 0
  · have ht : takes k (lead x.cps.toList) = j := by unfold takes; split <;> omega
    rw [if_neg (by simpa using hz), if_neg (by decide)]
    refine wpAny_execs_nil ⟨rfl, t1, t2, ?_⟩
    rw [ht]
    exact ⟨P₃, S₃, .inl hz⟩
  · rw [if_pos (by simpa using hz)]
    refine isTrue_and (wpAny_isTrue_Compare1 (Subscript_ (ldL P₃ rfl (ldL P₃ rfl (item_str_or R.handled (fits_small (by omega) (by omega)) (fun hout h' tk e hx' => ?_) fun h1 h2 => ?_)))))
    · have hj' : j = x.length := by omega
      have ht : takes k (lead x.cps.toList) = j := by unfold takes; split <;> omega
      refine noteFirst hA P₃ hx' fun h₅ a0 H P₅ => ?_
      refine backHeld rfl H fun h₆ H₆ up => ?_
      refine ⟨by rw [ht]; exact hz, by omega, e, a0, rfl, H₆, ?_, S₃⟩
      exact P₅.up.trans up
    · refine wpAny_Constant_str (eq_str (wpAny_truthy_bool ?_))
      rw [item_blank (by omega)]
      by_cases hc : x.cps.toList[j]? = some 32
      · rw [if_pos (by simpa using hc)]
        refine isTrue_and_nil ?_
        rw [if_pos rfl]
        have hlt : j < lead x.cps.toList := by
          rcases Nat.lt_or_ge j (lead x.cps.toList) with q | q
          · exact q
          · have : j = lead x.cps.toList := by omega
            rw [this] at hc
            exact absurd hc (lead_stop _)
        refine wpAny_execs_cons (wpAny_AugAssign_Name (ldnL P₃ rfl (wpAny_Constant_int (iadd_int (stL P₃ fun s₄ S₄ _ P₄ => ?_)))))
        refine wpAny_execs_cons (wpAny_AugAssign_Name (ldnL P₄ rfl (wpAny_Constant_int (isub_int (stL P₄ fun s₅ S₅ _ P₅ => ?_)))))
        have e1 : k - ((j + 1 : Nat) : Int) = k - j - 1 := by omega
        have e2 : ((j + 1 : Nat) : Int) = j + 1 := by omega
        obtain ⟨ta, tb, P₆⟩ : ∃ ta tb, Pt h₀ base outer L s₅.heap [("amount", .int (k - (j + 1 : Nat)) ta), ("s", .str x t), ("lpos", .int ((j + 1 : Nat) : Int) tb)] := by
          rw [e1, e2]; exact ⟨_, _, P₅⟩
        exact wpAny_execs_nil ⟨n - 1, by omega, j + 1, ta, tb, P₆, (S₃.trans S₄).trans S₅, by omega, fun h => by have := hk h; omega⟩
      · rw [if_neg (by simpa using hc), if_neg (by decide)]
        have hj' : j = lead x.cps.toList := by
          rcases Nat.lt_or_ge j (lead x.cps.toList) with q | q
          · exact absurd (lead_get _ _ q) hc
          · omega
        have ht : takes k (lead x.cps.toList) = j := by unfold takes; split <;> omega
        refine wpAny_execs_nil ⟨rfl, t1, t2, ?_⟩
        rw [ht]
        exact ⟨P₃, S₃, .inr (by omega)⟩

theorem lead_rev {xs : List Nat} (h : lead xs < xs.length) : lead xs.reverse < xs.length := by
  rcases Nat.lt_or_ge (lead xs.reverse) xs.length with q | q
  · exact q
  · have h1 := lead_stop xs
    have h2 : xs[lead xs]? = xs.reverse[xs.length - 1 - lead xs]? := by
      rw [List.getElem?_reverse (by omega)]; congr 1; omega
    rw [h2] at h1
    exact absurd (lead_get xs.reverse _ (by omega)) h1

theorem sp_while2 (R : Room (A.deeper (envS L f cd)) 1) {x : Str} {t : Tok} {k : Int} {u t4 : Tok} {lp : Value} (hx : x.length ≤ 4000) (hz0 : k = 0 ∨ lead x.cps.toList < x.length)
    (P : Pt h₀ base outer L s.heap [("amount", .int k u), ("s", .str x t), ("lpos", lp), ("rpos", .int (x.length - 1) t4)]) :
    wpAny (model pw w) (A.deeper (envS L f cd)) (exec (stIn 3 3) (envS L f cd))
      (fun fl s' => fl = .next ∧ ∃ t1 t2 v, Pt h₀ base outer L s'.heap [("amount", .int v t1), ("s", .str x t), ("lpos", lp), ("rpos", .int (x.length - 1 - (takes k (lead x.cps.toList.reverse) : Nat)) t2)] ∧ Same s s')
      (fun _ _ => False) s := by
  have hn : x.cps.toList.length = x.length := by simp [Str.length]
  have hle := lead_le x.cps.toList.reverse
  rw [List.length_reverse] at hle
  refine wpAny_While ?_
  refine codeAny_whileLoop (I := fun n s' => ∃ (j : Nat) (t1 t2 : Tok), Pt h₀ base outer L s'.heap [("amount", .int (k - j) t1), ("s", .str x t), ("lpos", lp), ("rpos", .int (x.length - 1 - j) t2)] ∧ Same s s' ∧ j + n = lead x.cps.toList.reverse ∧ (0 ≤ k → (j : Int) ≤ k))
    (fun n s₃ hI => ?_) (lead x.cps.toList.reverse) ⟨0, u, t4, by
      rw [show k - ((0 : Nat) : Int) = k from by simp, show (x.length : Int) - 1 - ((0 : Nat) : Int) = x.length - 1 from by simp]; exact P, Same.refl _, by omega, fun h => h⟩
  obtain ⟨j, t1, t2, P₃, S₃, hj, hk⟩ := hI
  refine isTrue_and (isTrue_plain (ldL P₃ rfl (truthy_int ?_)))
  by_cases hz : k - (j : Int) = 0
  · have ht : takes k (lead x.cps.toList.reverse) = j := by unfold takes; split <;> omega
    rw [if_neg (by simpa using hz), if_neg (by decide)]
    refine wpAny_execs_nil ⟨rfl, t1, t2, k - j, ?_⟩
    rw [ht]
    exact ⟨P₃, S₃⟩
  · rw [if_pos (by simpa using hz)]
    have hl : lead x.cps.toList < x.length := by
      rcases hz0 with q | q
      · subst q
        have := hk (Int.le_refl 0)
        omega
      · exact q
    have hrev := lead_rev (xs := x.cps.toList) (by omega)
    have er : (x.length : Int) - 1 - j = ((x.length - 1 - j : Nat) : Int) := by omega
    rw [er] at P₃
    refine isTrue_and (wpAny_isTrue_Compare1 (Subscript_ (ldL P₃ rfl (ldL P₃ rfl (item_str_or R.handled (fits_small (by omega) (by omega)) (fun hout h' tk e hx' => ?_) fun h1 h2 => ?_)))))
    · omega
    · refine wpAny_Constant_str (eq_str (wpAny_truthy_bool ?_))
      rw [item_blank (by omega)]
      have e2 : x.cps.toList[x.length - 1 - j]? = x.cps.toList.reverse[j]? := by
        rw [List.getElem?_reverse (by omega), hn]
      rw [e2]
      by_cases hc : x.cps.toList.reverse[j]? = some 32
      · rw [if_pos (by simpa using hc)]
        refine isTrue_and_nil ?_
        rw [if_pos rfl]
        have hlt : j < lead x.cps.toList.reverse := by
          rcases Nat.lt_or_ge j (lead x.cps.toList.reverse) with q | q
          · exact q
          · have : j = lead x.cps.toList.reverse := by omega
            rw [this] at hc
            exact absurd hc (lead_stop _)
        refine wpAny_execs_cons (wpAny_AugAssign_Name (ldnL P₃ rfl (wpAny_Constant_int (isub_int (stL P₃ fun s₄ S₄ _ P₄ => ?_)))))
        refine wpAny_execs_cons (wpAny_AugAssign_Name (ldnL P₄ rfl (wpAny_Constant_int (isub_int (stL P₄ fun s₅ S₅ _ P₅ => ?_)))))
        have e1 : k - ((j + 1 : Nat) : Int) = k - j - 1 := by omega
        have e2 : (x.length : Int) - 1 - ((j + 1 : Nat) : Int) = ((x.length - 1 - j : Nat) : Int) - 1 := by omega
        obtain ⟨ta, tb, P₆⟩ : ∃ ta tb, Pt h₀ base outer L s₅.heap [("amount", .int (k - (j + 1 : Nat)) ta), ("s", .str x t), ("lpos", lp), ("rpos", .int (x.length - 1 - ((j + 1 : Nat) : Int)) tb)] := by
          rw [e1, e2]; exact ⟨_, _, P₅⟩
        exact wpAny_execs_nil ⟨n - 1, by omega, j + 1, ta, tb, P₆, (S₃.trans S₄).trans S₅, by omega, fun h => by have := hk h; omega⟩
      · rw [if_neg (by simpa using hc), if_neg (by decide)]
        have hj' : j = lead x.cps.toList.reverse := by
          rcases Nat.lt_or_ge j (lead x.cps.toList.reverse) with q | q
          · exact absurd (lead_get _ _ q) hc
          · omega
        have ht : takes k (lead x.cps.toList.reverse) = j := by unfold takes; split <;> omega
        refine wpAny_execs_nil ⟨rfl, t1, t2, k - j, ?_⟩
        rw [ht, er]
        exact ⟨P₃, S₃⟩

theorem strip_spec (B : Bl A base outer s.heap) (T : Gl mg mb ad base) (R : Room A 2) (x : Str) (t : Tok) (k : Int) (u : Tok) (hx : x.length ≤ 4000) :
    codeAny (model pw w) A (.call (.ref ad.sp) ⟨[.str x t, .int k u], []⟩) (fun r s' =>
      match stripOf x.cps.toList k with
      | some ys => Ret base s (fun v _ => ∃ t', v = .str ⟨ys.toArray⟩ t') r s'
      | none => Rai base outer "IndexError" s r s') s := by
  have hn : x.cps.toList.length = x.length := by simp [Str.length]
  have hle := lead_le x.cps.toList
  refine callF (binds := [("s", .str x t), ("amount", .int k u)]) B T.lim T.sp (by have := R.depth; omega) (fun _ _ _ => rfl) (by rfl) fun s₁ L cd S₁ P₁ => ?_
  have hA := B.stack
  have h63 : ¬ (x.length : Int) ≥ 2 ^ 63 := by omega
  have R₁ := R.deeper (envS L ad.sp cd)
  refine wpAny_execs_cons (wpAny_Assign_Name (wpAny_Constant_int (stL P₁ fun s₂ S₂ _ P₂ => ?_)))
  refine wpAny_execs_cons (wpAny_mono (sp_while1 (f := ad.sp) (cd := cd) hA R₁ hx P₂) (fun fl s₃ h₃ => ?_) fun v s₃ h₃ => ?_)
  · obtain ⟨rfl, t1, t2, P₃, S₃, hc⟩ := h₃
    have e : stripOf x.cps.toList k = some ((x.cps.toList.take (x.cps.toList.length - takes (k - takes k (lead x.cps.toList)) (lead x.cps.toList.reverse))).drop (takes k (lead x.cps.toList))) := by
      unfold stripOf
      rw [if_neg]
      rintro ⟨a, b⟩
      rcases hc with q | q <;> omega
    rw [e]
    refine wpAny_execs_cons (wpAny_Assign_Name (wpAny_BinOp (Call_ (ldB T P₃ Boot.«len» (cB (aC (ldL P₃ rfl (args_nil (len_str h63 (wpAny_Constant_int (sub_int (stL P₃ fun s₄ S₄ _ P₄ => ?_))))))))))))
    refine wpAny_execs_cons (wpAny_mono (sp_while2 (f := ad.sp) (cd := cd) R₁ hx hc P₄) (fun fl s₅ h₅ => ?_) fun v s₅ h₅ => h₅.elim)
    obtain ⟨rfl, t3, t5, v, P₅, S₅⟩ := h₅
    refine wpAny_execs_cons (wpAny_Return_some (Subscript_ (ldL P₅ rfl (wpAny_Slice (evalPart_some_step (ldL P₅ rfl (evalPart_some_step (wpAny_BinOp (ldL P₅ rfl (wpAny_Constant_int (add_int (evalPart_none_step ?_))))))))))))
    refine tail_of_ItemOn (SBH.sliceItem_ss (P := fun h' => s₅.heap.StaysIn h') (s := { s₅ with toks := _ }) keptStays (fun _ _ e => e) (fun h' t' k' st => ?_) (by rw [sizeLine_eq]; omega)) (by with_unfolding_all rfl) (by intro _; with_unfolding_all rfl)
    refine ⟨_, rfl, ?_, ?_, ?_, t', ?_⟩
    · exact fun b o q => st b o (P₅.fr.keep b o q)
    · exact P₅.up.trans (.of_keeps st)
    · exact ((((S₁.trans S₂).trans S₃).trans S₄).trans S₅)
    · rw [slice_eq]
      have hT := takes_le (k - takes k (lead x.cps.toList)) (lead x.cps.toList.reverse)
      have hT2 := lead_le x.cps.toList.reverse
      rw [List.length_reverse] at hT2
      have hJ := takes_le k (lead x.cps.toList)
      have e1 : hiOf (some ((x.length : Int) - 1 - (takes (k - takes k (lead x.cps.toList)) (lead x.cps.toList.reverse) : Nat) + 1)) x.length = x.cps.toList.length - takes (k - takes k (lead x.cps.toList)) (lead x.cps.toList.reverse) := by
        simp only [hiOf, clipN]; omega
      have e2 : loOf (some ((takes k (lead x.cps.toList) : Nat) : Int)) x.length = takes k (lead x.cps.toList) := by
        simp only [loOf, clipN]; omega
      rw [e1, e2]
  · obtain ⟨h1, h2, e, a0, rfl, H, up, S₃⟩ := h₃
    have e' : stripOf x.cps.toList k = none := by unfold stripOf; rw [if_pos ⟨h1, h2.trans hn.symm⟩]
    rw [e']
    refine leavesHeld rfl H fun h' hfl up' => ?_
    exact ⟨e, a0, rfl, hfl, up.trans up', (S₁.trans S₂).trans S₃⟩
end
end Mine
end

-- part N4
section
open PySem PySem.W PySem.Calls PyProof.Rows
set_option Elab.async false
namespace Mine

/-- «c in cv» answers p c -/
def MemP (w : World) (base : Heap) (cv : Value) (p : Nat → Bool) : Prop :=
  ∀ (A : Around) (s : Shared) (c : Nat) (t : Tok) (Q : Value → Shared → Prop) (E : Value → Shared → Prop), base.StaysIn s.heap → (∀ k, Q (.bool (p c)) { s with toks := k }) →
    wpAny (model pw w) A (compareOp .In (.str ⟨#[c]⟩ t) cv) Q E s
theorem MemP.keeps {w : World} {base base' : Heap} {cv : Value} {p : Nat → Bool} (m : MemP w base cv p) (k : base.StaysIn base') : MemP w base' cv p :=
  fun A s c t Q E st h => m A s c t Q E (fun b o e => st b o (k b o e)) h
theorem memP_str (w : World) (base : Heap) (y : Str) (t : Tok) : MemP w base (.str y t) (fun c => decide (c ∈ y.cps.toList)) := fun A s c t Q E _ h => by
  refine in_str ?_
  rw [StrLaws.found_one]
  exact h _

def skipN (p : Nat → Bool) (xs : List Nat) (i : Nat) : Nat := ((xs.drop i).takeWhile p).length
theorem takeWhile_stop (p : Nat → Bool) : ∀ xs : List Nat, ∀ c, xs[(xs.takeWhile p).length]? = some c → p c = false
  | [], c, h => by simp at h
  | a :: r, c, h => by
    rw [List.takeWhile_cons] at h
    by_cases q : p a = true
    · rw [if_pos q] at h
      exact takeWhile_stop p r c (by simpa using h)
    · rw [if_neg q] at h
      simp at h
      subst h
      simpa using q
theorem takeWhile_get (p : Nat → Bool) : ∀ (xs : List Nat) (i : Nat), i < (xs.takeWhile p).length → ∃ c, xs[i]? = some c ∧ p c = true
  | [], i, h => by simp at h
  | a :: r, i, h => by
    rw [List.takeWhile_cons] at h
    by_cases q : p a = true
    · rw [if_pos q] at h
      cases i with
      | zero => exact ⟨a, rfl, q⟩
      | succ i =>
        obtain ⟨c, h1, h2⟩ := takeWhile_get p r i (by simpa using h)
        exact ⟨c, by simpa using h1, h2⟩
    · rw [if_neg q] at h; simp at h
theorem takeWhile_le (p : Nat → Bool) (xs : List Nat) : (xs.takeWhile p).length ≤ xs.length := by
  induction xs with
  | nil => simp
  | cons a r ih => rw [List.takeWhile_cons]; split <;> simp <;> omega
theorem skipN_le (p : Nat → Bool) (xs : List Nat) (i : Nat) (h : i ≤ xs.length) : i + skipN p xs i ≤ xs.length := by
  have := takeWhile_le p (xs.drop i)
  rw [List.length_drop] at this
  unfold skipN; omega

section
variable {w : World} {A : Around} {s : Shared} {h₀ base : Heap} {outer : List Env} {mg mb : Str → Option Value} {ad : Ads} {L f : Addr} {cd : Value}

abbrev envC (L f : Addr) (cd : Value) : Env := envOf "skip_chars" (fnScope (stAt 12)) L f cd

theorem sc_try (hA : A.frames = some outer) (T : Gl mg mb ad base) (R : Room (A.deeper (envC L f cd)) 1) {x : Str} {t : Tok} {i : Nat} {u : Tok} {cv : Value} {p : Nat → Bool} (hx : x.length ≤ 4000) (hi : i ≤ x.length)
    (hm : MemP w base cv p) (P : Pt h₀ base outer L s.heap [("chars", cv), ("pos", .int i u), ("src", .str x t)]) :
    wpAny (model pw w) (A.deeper (envC L f cd)) (exec (stIn 12 0) (envC L f cd))
      (fun fl s' => fl = .next ∧ ∃ t1, Pt h₀ base outer L s'.heap [("chars", cv), ("pos", .int ((i + skipN p x.cps.toList i : Nat) : Int) t1), ("src", .str x t)] ∧ Same s s')
      (fun _ _ => False) s := by
  have hn : x.cps.toList.length = x.length := by simp [Str.length]
  have hle := skipN_le p x.cps.toList i (by omega)
  refine wpAny_Try_except ?_
  refine wpAny_execs_cons (wpAny_While ?_)
  refine codeAny_whileLoop (I := fun n s' => ∃ (j : Nat) (t1 : Tok), Pt h₀ base outer L s'.heap [("chars", cv), ("pos", .int ((i + j : Nat) : Int) t1), ("src", .str x t)] ∧ Same s s' ∧ j + n = skipN p x.cps.toList i)
    (fun n s₃ hI => ?_) (skipN p x.cps.toList i) ⟨0, u, P, Same.refl _, by omega⟩
  obtain ⟨j, t1, P₃, S₃, hj⟩ := hI
  refine wpAny_isTrue_Compare1 (Subscript_ (ldL P₃ rfl (ldL P₃ rfl (item_str_or R.handled (fits_small (by omega) (by omega)) (fun hout h' tk e hx' => ?_) fun h1 h2 => ?_))))
  · have hj' : i + j = x.length := by omega
    have hj2 : j = skipN p x.cps.toList i := by omega
    refine noteFirst hA P₃ hx' fun h₅ a0 H P₅ => ?_
    refine backHeld rfl H fun h₆ H₆ up => ?_
    refine caughtBy H₆ (P₅.slots H₆.1 up) T.g (T.free _ (by decide)) T.b ((T.blt _ (by decide)).trans Boot.«IndexError») PySem.F.isExc_IndexError PySem.F.notTuple_IndexError (by rw [isSubtype_type]; kernel_rfl) fun h₇ E' P₇ => ?_
    refine wpAny_execs_cons (wpAny_Pass (wpAny_execs_nil ⟨rfl, t1, ?_⟩))
    rw [← hj2]
    exact ⟨P₇, S₃⟩
  · have hlt : i + j < x.length := by omega
    have hlt' : i + j < x.cps.toList.length := by omega
    rw [item_nat x (i + j) hlt]
    refine ldL P₃ rfl (hm _ _ _ _ _ _ P₃.fr.keep fun tk => wpAny_truthy_bool ?_)
    have eg : x.cps.toList[i + j]? = some x.cps.toList[i + j] := List.getElem?_eq_getElem hlt'
    have ed : (x.cps.toList.drop i)[j]? = some x.cps.toList[i + j] := by rw [List.getElem?_drop]; exact eg
    rw [eg]
    by_cases hc : p x.cps.toList[i + j] = true
    · rw [Option.getD_some, if_pos hc]
      have hlt2 : j < skipN p x.cps.toList i := by
        rcases Nat.lt_or_ge j (skipN p x.cps.toList i) with q | q
        · exact q
        · have e : j = skipN p x.cps.toList i := by omega
          have := takeWhile_stop p (x.cps.toList.drop i) x.cps.toList[i + j] (by
            show (x.cps.toList.drop i)[skipN p x.cps.toList i]? = _
            rw [← e]; exact ed)
          rw [hc] at this; cases this
      refine wpAny_execs_cons (wpAny_AugAssign_Name (ldnL P₃ rfl (wpAny_Constant_int (iadd_int (stL P₃ fun s₄ S₄ _ P₄ => ?_)))))
      obtain ⟨ta, P₆⟩ : ∃ ta, Pt h₀ base outer L s₄.heap [("chars", cv), ("pos", .int ((i + (j + 1) : Nat) : Int) ta), ("src", .str x t)] := by
        rw [show ((i + (j + 1) : Nat) : Int) = ((i + j : Nat) : Int) + 1 from by omega]; exact ⟨_, P₄⟩
      exact wpAny_execs_nil ⟨n - 1, by omega, j + 1, ta, P₆, S₃.trans S₄, by omega⟩
    · rw [Option.getD_some, if_neg hc]
      have e : j = skipN p x.cps.toList i := by
        rcases Nat.lt_or_ge j (skipN p x.cps.toList i) with q | q
        · obtain ⟨c, h3, h4⟩ := takeWhile_get p (x.cps.toList.drop i) j q
          rw [ed] at h3; cases h3
          exact absurd h4 hc
        · omega
      refine wpAny_execs_nil (wpAny_execs_nil (wpAny_execs_nil ⟨rfl, t1, ?_⟩))
      rw [← e]
      exact ⟨P₃, S₃⟩

theorem skip_chars_spec (B : Bl A base outer s.heap) (T : Gl mg mb ad base) (R : Room A 2) (x : Str) (t : Tok) (i : Nat) (u : Tok) (cv : Value) (p : Nat → Bool) (hx : x.length ≤ 4000) (hi : i ≤ x.length) (hm : MemP w base cv p) :
    codeAny (model pw w) A (.call (.ref ad.sc) ⟨[.str x t, .int i u, cv], []⟩) (Ret base s (fun v _ => ∃ t', v = .int ((i + skipN p x.cps.toList i : Nat) : Int) t')) s := by
  refine callF (binds := [("src", .str x t), ("pos", .int i u), ("chars", cv)]) B T.lim T.sc (by have := R.depth; omega) (fun _ _ _ => rfl) (by rfl) fun s₁ L cd S₁ P₁ => ?_
  have R₁ := R.deeper (envC L ad.sc cd)
  refine wpAny_execs_cons (wpAny_mono (sc_try (f := ad.sc) (cd := cd) B.stack T R₁ hx hi hm P₁) (fun fl s₂ h₂ => ?_) fun v s₃ h₃ => h₃.elim)
  obtain ⟨rfl, t1, P₂, S₂⟩ := h₂
  refine wpAny_execs_cons (wpAny_Return_some (ldL P₂ rfl ?_))
  exact ⟨_, rfl, P₂.fr.keep, P₂.up, S₁.trans S₂, t1, rfl⟩
end
end Mine
end

-- part N5
section
open PySem PySem.W PySem.Calls PyProof.Rows PySem.SeqAt
set_option Elab.async false
namespace Mine

theorem Loc_put_ne {x y : Str} {v : Value} {l : List (Str × Value)} (h : y ≠ x) : Loc (putv x v l) y = Loc l y := by rw [Loc_putv]; simp [h]
theorem Loc_put_eq {x : Str} {v : Value} {l : List (Str × Value)} : Loc (putv x v l) x = some v := by rw [Loc_putv]; simp

theorem il_keeps {h h' : Heap} {a : Addr} {items : Array Value} (x : h.IsList a items) (k : h.StaysIn h') : h'.IsList a items :=
  let ⟨o, e, c, n, d⟩ := x; ⟨o, k _ _ e, c, n, d⟩
theorem il_slots {h h' : Heap} {a : Addr} {items : Array Value} (x : h.IsList a items) (k : h.UpToSlots h') : h'.IsList a items := by
  obtain ⟨o, e, c, n, d⟩ := x
  obtain ⟨sl, q⟩ := k a o e (fun vs z => by rw [d] at z; cases z)
  exact ⟨_, q, c, n, d⟩

/-- «c not in the list» answers not p c -/
def ListP (items : Array Value) (p : Nat → Bool) : Prop :=
  ∀ c : Nat, ∃ e : Value → Bool, (∀ y ∈ items, ∀ (A : Around) (s : Shared) (t : Tok), EqAt A s y (.str ⟨#[c]⟩ t) (e y)) ∧ items.any e = p c

theorem skipN_stop {p : Nat → Bool} {xs : List Nat} {i j : Nat} {c : Nat} (hj : j ≤ skipN p xs i) (hg : xs[i + j]? = some c) (hc : p c = false) : j = skipN p xs i := by
  rcases Nat.lt_or_ge j (skipN p xs i) with q | q
  · obtain ⟨c', h3, h4⟩ := takeWhile_get p (xs.drop i) j q
    rw [List.getElem?_drop, hg] at h3
    cases h3
    rw [hc] at h4; cases h4
  · omega
theorem skipN_go {p : Nat → Bool} {xs : List Nat} {i j : Nat} {c : Nat} (hj : j ≤ skipN p xs i) (hg : xs[i + j]? = some c) (hc : p c = true) : j < skipN p xs i := by
  rcases Nat.lt_or_ge j (skipN p xs i) with q | q
  · exact q
  · have e : j = skipN p xs i := by omega
    have := takeWhile_stop p (xs.drop i) c (by
      show (xs.drop i)[skipN p xs i]? = _
      rw [← e, List.getElem?_drop]; exact hg)
    rw [hc] at this; cases this

section
variable {w : World} {A : Around} {s : Shared} {h₀ base : Heap} {outer : List Env} {mg mb : Str → Option Value} {ad : Ads} {L f : Addr} {cd : Value}

theorem rangeIt {E : Value → Shared → Prop} {a b : Nat} {t u : Tok} {Q : Value → Shared → Prop} (ha : a ≤ 1000000) (hb : b ≤ 1000000)
    (h : ∀ s' it, Same s s' → s.heap.StaysIn s'.heap → s.heap.objs.size < it → IsRangeIter s'.heap it (a : Int) ((b - a : Nat) : Int) 1 → Q (.ref it) s') :
    wpAny (model pw w) A (call (.type "range") [.int a t, .int b u]) (fun x s₁ => wpAny (model pw w) A (pyIter x) Q E s₁) E s := by
  have hsz : Builtin.Range.rangeSize (a : Int) (b : Int) 1 = ((b - a : Nat) : Int) := by rw [rangeSize_one]; split <;> omega
  refine call_range_2 (wpAny_pyIter_range (IsRange.new _ _ _ _ _ _ _) (small_one (by omega) (by omega) (by omega) (by omega)) ?_)
  rw [hsz]
  refine h _ _ ⟨rfl, rfl⟩ (fun b o e => Heap.get?_push_of_some _ (Heap.get?_push_of_some _ e)) ?_ (Heap.get?_push_size _ rfl)
  rw [Heap.size_push]
  exact Nat.lt_succ_self _

abbrev envF (L f : Addr) (cd : Value) : Env := envOf "_law_first" (fnScope (stAt 23)) L f cd

theorem first_spec (B : Bl A base outer s.heap) (T : Gl mg mb ad base) (R : Room A 2) (x : Str) (t : Tok) (i : Nat) (u : Tok) (pa : Addr) (items : Array Value) (p : Nat → Bool) (hx : x.length ≤ 4000) (hi : i ≤ x.length)
    (hl : base.IsList pa items) (hp : ListP items p) :
    codeAny (model pw w) A (.call (.ref ad.lt) ⟨[.str x t, .int i u, .ref pa], []⟩) (Ret base s (fun v _ => ∃ t', v = .int ((i + skipN p x.cps.toList i : Nat) : Int) t')) s := by
  have hn : x.cps.toList.length = x.length := by simp [Str.length]
  have h63 : ¬ (x.length : Int) ≥ 2 ^ 63 := by omega
  have hle := skipN_le p x.cps.toList i (by omega)
  refine callF (binds := [("text", .str x t), ("start", .int i u), ("passed", .ref pa)]) B T.lim T.lt (by have := R.depth; omega) (fun _ _ _ => rfl) (by rfl) fun s₁ L cd S₁ P₁ => ?_
  have R₁ := R.deeper (envF L ad.lt cd)
  refine wpAny_execs_cons (wpAny_For ?_)
  refine Call_ (ldB T P₁ Boot.«range» (cT (aC (ldL P₁ rfl (aC (Call_ (ldB T P₁ Boot.«len» (cB (aC (ldL P₁ rfl (args_nil (len_str h63 (args_nil ?_)))))))))))))
  refine rangeIt (by omega) (by omega) fun s₂ it S₂ k₂ hit I₂ => ?_
  have P₂ := P₁.grow k₂
  have hLit : L < it := Nat.lt_trans P₁.lt_size hit
  refine codeAny_forLoop (I := fun n s' => ∃ (j : Nat) (l : List (Str × Value)), Pt s.heap base outer L s'.heap l ∧ Loc l "text" = some (.str x t) ∧ Loc l "passed" = some (.ref pa) ∧ Same s s' ∧
      IsRangeIter s'.heap it ((i + j : Nat) : Int) ((x.length - i - j : Nat) : Int) 1 ∧ j ≤ skipN p x.cps.toList i ∧ n = x.length - i - j)
    (fun n s₃ hI => ?_) (x.length - i) ⟨0, _, P₂, rfl, rfl, S₁.trans S₂, I₂, by omega, by omega⟩
  clear P₂ P₁ I₂ S₁ S₂ k₂
  obtain ⟨j, l, P₃, ht, hpp, S₃, I₃, hj, hn3⟩ := hI
  by_cases hlt : i + j < x.length
  · have hlt' : i + j < x.cps.toList.length := by omega
    refine wpAny_pyNext_range_item I₃ (by omega) fun h₄ I₄ sb₄ => ?_
    have P₄ := P₃.upd hLit sb₄.extBut
    refine wpAny_assign_Name (stL (s := { s₃ with heap := h₄, toks := _ }) P₄ fun s₅ S₅ sb₅ P₅ => ?_)
    have ht5 : Loc (putv "place" (.int ((i + j : Nat) : Int) s₃.toks) l) "text" = some (.str x t) := (Loc_put_ne (by decide)).trans ht
    have hp5 : Loc (putv "place" (.int ((i + j : Nat) : Int) s₃.toks) l) "passed" = some (.ref pa) := (Loc_put_ne (by decide)).trans hpp
    have I₅ : IsRangeIter s₅.heap it (((i + j : Nat) : Int) + 1) (((x.length - i - j : Nat) : Int) - 1) 1 := (sb₅.2 it (Nat.ne_of_gt hLit)).trans I₄
    refine wpAny_execs_cons (wpAny_If (wpAny_isTrue_Compare1 (Subscript_ (ldL P₅ ht5 (ldL P₅ Loc_put_eq (item_str_or R₁.handled (fits_small (by omega) (by omega)) (fun hout h' tk e hx' => ?_) fun h1 h2 => ?_))))))
    · omega
    · rw [item_nat x (i + j) hlt]
      have eg : x.cps.toList[i + j]? = some x.cps.toList[i + j] := List.getElem?_eq_getElem hlt'
      rw [eg, Option.getD_some]
      obtain ⟨e, he1, he2⟩ := hp x.cps.toList[i + j]
      refine ldL (s := { s₅ with toks := _ }) P₅ hp5 (notIn_listAt e (il_keeps hl P₅.fr.keep) (fun y hy => he1 y hy _ _ _) (wpAny_truthy_bool ?_))
      rw [he2]
      by_cases hc : p x.cps.toList[i + j] = true
      · rw [hc, if_neg (by decide)]
        have := skipN_go hj eg hc
        refine wpAny_execs_nil (wpAny_execs_nil ⟨n - 1, by omega, j + 1, _, P₅, ht5, hp5, S₃.trans S₅, ?_, by omega, by omega⟩)
        rw [show ((i + (j + 1) : Nat) : Int) = ((i + j : Nat) : Int) + 1 from by omega, show ((x.length - i - (j + 1) : Nat) : Int) = ((x.length - i - j : Nat) : Int) - 1 from by omega]
        exact I₅
      · have hc' : p x.cps.toList[i + j] = false := by simpa using hc
        rw [hc', if_pos (by decide)]
        have e := skipN_stop hj eg hc'
        refine wpAny_execs_cons (wpAny_Return_some (ldL (s := { s₅ with toks := _ }) P₅ Loc_put_eq ?_))
        refine ⟨_, rfl, P₅.fr.keep, P₅.up, S₃.trans S₅, s₃.toks, ?_⟩
        rw [← e]
  · refine wpAny_pyNext_range_end R₁.handled I₃ (by omega) fun h₄ eb₄ => ?_
    have P₄ := P₃.upd hLit eb₄
    refine wpAny_execs_nil ?_
    refine wpAny_execs_cons (wpAny_Return_some (Call_ (ldB (s := { s₃ with heap := h₄ }) T P₄ Boot.«len» (cB (aC (ldL (s := { s₃ with heap := h₄ }) P₄ ht (args_nil (len_str h63 ?_))))))))
    refine ⟨_, rfl, P₄.fr.keep, P₄.up, S₃, s₃.toks + 1, ?_⟩
    rw [show x.length = i + skipN p x.cps.toList i from by omega]
end
end Mine
end

-- part N6
section
open PySem PySem.W PySem.Calls PyProof.Rows PySem.SeqAt
set_option Elab.async false
namespace Mine

section
variable {w : World} {A : Around} {E : Value → Shared → Prop} {s : Shared} {h₀ base : Heap} {outer : List Env} {mg mb : Str → Option Value} {ad : Ads} {L f a e : Addr} {cd : Value} {name : Str} {scope : Scope} {l : List (Str × Value)}

theorem caughtFly {X T' : String} {x : Str} {np pos : Pos} {b₀ : Stmt} {suite : List Stmt} {rest : List ExceptHandler} {Q : Flow → Shared → Prop} {a0 : Value} {base' : Heap}
    (hA : A.frames = some outer) (hbb : base.StaysIn base') (H : Heap.FlyingW base' (envOf name scope L a cd :: outer) e (.type X) a0 s.heap) (P : Pt h₀ base outer L s.heap l)
    (hg : base.Ns mainGlobals mg) (hmiss : mg x = none) (hb : base.Ns builtinsNs mb) (hv : mb x = some (.type T'))
    (hexc : isSubtype (.type T') (.type "BaseException") = pure true) (hnt : isSubtype (.type ((Manifest.find? T').elim "type" fun y => y.metatype)) (.type "tuple") = pure false) (hsub : isSubtype (.type X) (.type T') = pure true)
    (k : ∀ h' E', Pt h₀ base outer L h' l → wpAny (model pw w) ((A.deeper (envOf name scope L a cd)).mark (some (.ref e))) (execs (b₀ :: suite) (envOf name scope L a cd)) Q E' { s with heap := h' })
    (hk : scope.kind = .function := by rfl) (hx : (envOf name scope L a cd).kindOf x = some .globalImplicit := by rfl) (hd : (x == ("__debug__" : Str)) = false := by decide) :
    wpAny (model pw w) (A.deeper (envOf name scope L a cd)) (noteFrame (.ref e) (envOf name scope L a cd))
      (fun _ s₂ => wpAny (model pw w) (A.deeper (envOf name scope L a cd)) (setFlight (.ref e) none) (fun _ s₃ =>
        wpAny (model pw w) (A.deeper (envOf name scope L a cd)) (handleBy (.ref e) (envOf name scope L a cd) (.ExceptHandler (some (.Name x np)) none (b₀ :: suite) pos :: rest)) Q E s₃) E s₂) E s := by
  refine wpAny_looks_onW (Around.frames_deeper hA) rfl H fun h₄ H₄ up₄ => ?_
  have P₄ := P.slots (fun b o q => H₄.1 b o (hbb b o q)) up₄
  refine wpAny_landsW H₄ fun h₅ hfl hsm₅ => ?_
  have P₅ := P₄.slots (fun b o q => hfl.1 b o (hbb b o q)) hsm₅
  obtain ⟨ob, hob, hobc⟩ := hfl.there
  refine wpAny_handleBy_builtin (X := X) (T := T') (b := true) hexc hnt hsub (ld_builtin_at P₅.fr hg hmiss hb hv ⟨rfl, ⟨ob, hob, hobc⟩, ?_⟩ hk hx hd)
  rw [if_pos rfl]
  exact lands_againW hfl fun h₆ hfl₆ hsm₆ => k h₆ _ (P₅.slots (fun b o q => hfl₆.1 b o (hbb b o q)) hsm₆)

abbrev envP (L f : Addr) (cd : Value) : Env := envOf "_law_stripped" (fnScope (stAt 21)) L f cd

def strippedV (xs : List Nat) (k : Int) (v : Value) : Prop := match stripOf xs k with
  | some ys => ∃ t', v = .str ⟨ys.toArray⟩ t'
  | none => v = .none

theorem stripped_spec (B : Bl A base outer s.heap) (T : Gl mg mb ad base) (R : Room A 3) (x : Str) (t : Tok) (k : Int) (u : Tok) (hx : x.length ≤ 4000) :
    codeAny (model pw w) A (.call (.ref ad.ls) ⟨[.str x t, .int k u], []⟩) (Ret base s (fun v _ => strippedV x.cps.toList k v)) s := by
  refine callF (binds := [("piece", .str x t), ("amount", .int k u)]) B T.lim T.ls (by have := R.depth; omega) (fun _ _ _ => rfl) (by rfl) fun s₁ L cd S₁ P₁ => ?_
  have R₁ := R.deeper (envP L ad.ls cd)
  have B₁ := P₁.bl (env := envP L ad.ls cd) B.stack rfl
  have T₁ := T.keeps P₁.base_in
  obtain ⟨o, pm, cd', doc, ho, hdat, hcd⟩ := T.sp.there
  refine wpAny_execs_cons (wpAny_Try_except (wpAny_execs_cons (wpAny_Return_some ?_)))
  refine Call_ (ldG T P₁ T.sp.glob (cD hdat (aC (ldL P₁ rfl (aC (ldL P₁ rfl (args_nil ⟨P₁.fr.keep _ _ ho, wpAny_call (codeAny_mono (strip_spec B₁ T₁ R₁ x t k u hx) fun r s₂ h₂ => ?_)⟩)))))))
  unfold strippedV
  cases hst : stripOf x.cps.toList k with
  | some ys =>
    rw [hst] at h₂
    obtain ⟨v, rfl, st, up, S₂, h⟩ := h₂
    have P₂ := P₁.back st up
    exact ⟨_, rfl, P₂.fr.keep, P₂.up, S₁.trans S₂, h⟩
  | none =>
    rw [hst] at h₂
    obtain ⟨e, a0, rfl, fl, up, S₂⟩ := h₂
    have P₂ := P₁.back fl.1 up
    refine caughtFly B.stack P₁.base_in fl P₂ T.g (T.free _ (by decide)) T.b ((T.blt _ (by decide)).trans Boot.«IndexError») PySem.F.isExc_IndexError PySem.F.notTuple_IndexError (by rw [isSubtype_type]; kernel_rfl) fun h₇ E' P₇ => ?_
    refine wpAny_execs_cons (wpAny_Return_some (Constant_none ?_))
    exact ⟨_, rfl, P₇.fr.keep, P₇.up, S₁.trans S₂, rfl⟩
end
end Mine
end

-- part N7
section
open PySem PySem.W PySem.Calls PyProof.Rows PySem.SeqAt
set_option Elab.async false
namespace Mine

/-- a field of the law: ahead, word, behind, amount -/
structure Fld where
  a : Nat
  w : List Nat
  b : Nat
  k : Int

def blanks (n : Nat) : List Nat := List.replicate n 32
def Fld.due (F : Fld) : List Nat := blanks F.a ++ F.w ++ blanks F.b
def Fld.width (F : Fld) : Nat := F.a + F.w.length + F.b
/-- what _law_due gives -/
def Fld.ends (F : Fld) : Option (List Nat) :=
  if F.w = [] then (if 0 ≤ F.k ∧ F.k ≤ F.width then some (blanks (F.width - F.k.toNat)) else none)
  else if F.k < 0 then some F.w
  else some (blanks (F.a - min F.k.toNat F.a) ++ F.w ++ blanks (F.b - (F.k.toNat - min F.k.toNat F.a)))
structure Fld.Ok (F : Fld) : Prop where
  a : F.a ≤ 1000
  b : F.b ≤ 1000
  w : F.w.length ≤ 1000
  lo : -1000 ≤ F.k
  hi : F.k ≤ 1000

/-- the field as a tuple in the heap -/
def FldAt (h : Heap) (t : Addr) (F : Fld) : Prop := ∃ t1 t2 t3 t4, IsTup h t #[.int F.a t1, .str ⟨F.w.toArray⟩ t2, .int F.b t3, .int F.k t4]
theorem FldAt.keeps {h h' : Heap} {t : Addr} {F : Fld} (x : FldAt h t F) (k : h.StaysIn h') : FldAt h' t F := by
  obtain ⟨t1, t2, t3, t4, o, e, c, n, d⟩ := x
  exact ⟨t1, t2, t3, t4, o, k _ _ e, c, n, d⟩
theorem FldAt.slots {h h' : Heap} {t : Addr} {F : Fld} (x : FldAt h t F) (k : h.UpToSlots h') : FldAt h' t F := by
  obtain ⟨t1, t2, t3, t4, o, e, c, n, d⟩ := x
  obtain ⟨sl, q⟩ := k t o e (fun vs z => by rw [d] at z; cases z)
  exact ⟨t1, t2, t3, t4, _, q, c, n, d⟩

section
variable {w : World} {A : Around} {E : Value → Shared → Prop} {s : Shared} {h₀ base : Heap} {outer : List Env} {mg mb : Str → Option Value} {ad : Ads} {L f a e : Addr} {cd : Value} {name : Str} {scope : Scope} {l : List (Str × Value)}

theorem unpack4 {x1 x2 x3 x4 : Str} {p1 p2 p3 p4 tp : Pos} {kk : _} {t : Addr} {v1 v2 v3 v4 : Value} {Q : Unit → Shared → Prop} (hh : A.handled = none) (P : Pt h₀ base outer L s.heap l) (ht : IsTup s.heap t #[v1, v2, v3, v4])
    (h : ∀ s', Same s s' → Heap.ExtBut L s.heap s'.heap → Pt h₀ base outer L s'.heap (putv x4 v4 (putv x3 v3 (putv x2 v2 (putv x1 v1 l)))) → Q () s')
    (hk : scope.kind = .function := by rfl) (h1 : (envOf name scope L a cd).kindOf x1 = some .local := by rfl) (h2 : (envOf name scope L a cd).kindOf x2 = some .local := by rfl)
    (h3 : (envOf name scope L a cd).kindOf x3 = some .local := by rfl) (h4 : (envOf name scope L a cd).kindOf x4 = some .local := by rfl) :
    wpAny (model pw w) A (assign (.Tuple [.Name x1 p1, .Name x2 p2, .Name x3 p3, .Name x4 p4] kk tp) (envOf name scope L a cd) (.ref t)) Q E s := by
  refine assign_Tuple_tuple hh ht rfl rfl fun h' he => ?_
  have k' : s.heap.StaysIn h' := fun b o q => he b o (Nat.ne_of_lt (Heap.lt_size q)) q
  have P' := P.grow k'
  refine assignInOrder_cons (assign_Name (stL (s := { s with heap := h' }) P' (fun s₁ S₁ b₁ P₁ => ?_) hk h1))
  refine assignInOrder_cons (assign_Name (stL P₁ (fun s₂ S₂ b₂ P₂ => ?_) hk h2))
  refine assignInOrder_cons (assign_Name (stL P₂ (fun s₃ S₃ b₃ P₃ => ?_) hk h3))
  refine assignInOrder_cons (assign_Name (stL P₃ (fun s₄ S₄ b₄ P₄ => ?_) hk h4))
  refine assignInOrder_nil (h s₄ ?_ (fun b o hb q => ?_) P₄)
  · exact ((Same.trans S₁ S₂).trans S₃).trans S₄
  · exact b₄.extBut b o hb (b₃.extBut b o hb (b₂.extBut b o hb (b₁.extBut b o hb (k' b o q))))
end
end Mine
end

-- part N8
section
open PySem PySem.W PySem.Calls PyProof.Rows PySem.SeqAt
set_option Elab.async false
namespace Mine

def optV (o : Option (List Nat)) (v : Value) : Prop := match o with
  | some ys => ∃ t', v = .str ⟨ys.toArray⟩ t'
  | none => v = .none

theorem str_app (a b : List Nat) : (⟨a.toArray⟩ : Str) ++ (⟨b.toArray⟩ : Str) = ⟨(a ++ b).toArray⟩ := by
  refine Str.ext' ?_
  rw [Str.cps_append]
  simp
theorem str_len (a : List Nat) : (⟨a.toArray⟩ : Str).length = a.length := by simp [Str.length]
theorem blank_eq : Str.ofString " " = ⟨(blanks 1).toArray⟩ := by decide
theorem foldl_blank : ∀ (n : Nat) (acc : Array Nat), (List.replicate n #[32]).foldl (· ++ ·) acc = acc ++ (blanks n).toArray
  | 0, acc => by simp [blanks]
  | n + 1, acc => by
    rw [List.replicate_succ, List.foldl_cons, foldl_blank n]
    unfold blanks
    rw [List.replicate_succ]
    apply Array.ext'
    simp
theorem mul_blank {n : Int} (h0 : 0 ≤ n) : Txt.mul (Str.ofString " ") n = ⟨(blanks n.toNat).toArray⟩ := by
  unfold Txt.mul
  by_cases h1 : n < 1
  · rw [if_pos h1, show n.toNat = 0 by omega]; rfl
  · rw [if_neg h1]
    split
    · rename_i h
      have h2 : (Str.ofString " ").length = 1 := by decide
      rw [h2] at h
      simp at h
      subst h
      decide
    · have e : (Str.ofString " ").cps = #[32] := by decide
      rw [e, foldl_blank]
      simp
theorem mulOk_blank {n : Int} (h0 : 0 ≤ n) (h1 : n ≤ 10000) : MulOk (Str.ofString " ") n := by
  have h2 : (Str.ofString " ").length = 1 := by decide
  refine ⟨?_, fun _ _ => ?_, fun _ _ => ?_⟩
  · simp; omega
  · rw [h2]
    have : (1 : Int) ≤ (2 ^ 63 - 1) / n ∨ n = 0 := by
      by_cases q : n = 0
      · exact .inr q
      · left
        exact Int.le_ediv_of_mul_le (by omega) (by omega)
    rcases this with q | q
    · show ¬ ((1 : Nat) : Int) > _
      omega
    · omega
  · rw [h2]
    unfold Builtin.Str.tooLong
    rw [sizeLine_eq]
    simp
    omega

section
variable {w : World} {A : Around} {E : Value → Shared → Prop} {s : Shared} {h₀ base : Heap} {outer : List Env} {mg mb : Str → Option Value} {ad : Ads} {L f a e : Addr} {cd : Value}

theorem mulB {n : Int} {t u : Tok} {Q : Value → Shared → Prop} (h0 : 0 ≤ n) (h1 : n ≤ 10000) (h : ∀ t' k, Q (.str ⟨(blanks n.toNat).toArray⟩ t') { s with toks := k }) :
    wpAny (model pw w) A (binaryOp .Mult (.str (Str.ofString " ") t) (.int n u)) Q E s := by
  refine SB.mul (mulOk_blank h0 h1) fun t' k => ?_
  rw [mul_blank h0]
  exact h t' k
theorem addS {x y : List Nat} {t u : Tok} {Q : Value → Shared → Prop} (hx : x.length + y.length ≤ 100000) (h : ∀ t' k, Q (.str ⟨(x ++ y).toArray⟩ t') { s with toks := k }) :
    wpAny (model pw w) A (binaryOp .Add (.str ⟨x.toArray⟩ t) (.str ⟨y.toArray⟩ u)) Q E s := by
  refine add_str (fun t' k => ?_) (by rw [str_len, str_len, sizeLine_eq]; omega)
  rw [str_app]
  exact h t' k

abbrev envD (L f : Addr) (cd : Value) : Env := envOf "_law_due" (fnScope (stAt 22)) L f cd

theorem due_spec (B : Bl A base outer s.heap) (T : Gl mg mb ad base) (R : Room A 2) (F : Fld) (hF : F.Ok) (t : Addr) (ht : FldAt base t F) :
    codeAny (model pw w) A (.call (.ref ad.ld) ⟨[.ref t], []⟩) (Ret base s (fun v _ => optV F.ends v)) s := by
  obtain ⟨ha, hb, hw, hlo, hhi⟩ := hF
  refine callF (binds := [("field", .ref t)]) B T.lim T.ld (by have := R.depth; omega) (fun _ _ _ => rfl) (by rfl) fun s₁ L cd S₁ P₁ => ?_
  have R₁ := R.deeper (envD L ad.ld cd)
  obtain ⟨t1, t2, t3, t4, hT⟩ := ht.keeps P₁.fr.keep
  have h63 : ¬ ((⟨F.w.toArray⟩ : Str).length : Int) ≥ 2 ^ 63 := by rw [str_len]; omega
  refine wpAny_execs_cons (Assign_Tuple (ldL P₁ rfl (unpack4 R₁.handled P₁ hT fun s₂ S₂ _ P₂ => ?_)))
  refine wpAny_execs_cons (wpAny_Assign_Name (wpAny_BinOp (wpAny_BinOp (ldL P₂ rfl (Call_ (ldB T P₂ Boot.«len» (cB (aC (ldL P₂ rfl (args_nil (len_str h63 (add_int (ldL P₂ rfl (add_int (stL P₂ fun s₃ S₃ _ P₃ => ?_)))))))))))))))
  have hwid : (F.a : Int) + ((⟨F.w.toArray⟩ : Str).length : Int) + F.b = (F.width : Int) := by rw [str_len]; unfold Fld.width; omega
  rw [hwid] at P₃
  have hS : Same s s₃ := (S₁.trans S₂).trans S₃
  have hwd : F.width ≤ 3000 := by unfold Fld.width; omega
  refine wpAny_execs_cons (wpAny_If (wpAny_isTrue_Compare1 (ldL P₃ rfl (wpAny_Constant_str (eq_str (wpAny_truthy_bool ?_))))))
  have heq : ((⟨F.w.toArray⟩ : Str) == Str.ofString "") = decide (F.w = []) := by
    have e : Str.ofString "" = ⟨([] : List Nat).toArray⟩ := by decide
    rw [e]
    by_cases q : F.w = []
    · rw [q]; simp
    · rw [decide_eq_false q]
      exact beq_false_of_ne fun z => q (by injection z with z; simpa using z)
  rw [heq]
  by_cases q : F.w = []
  · rw [decide_eq_true q, if_pos rfl]
    refine wpAny_execs_cons (wpAny_Return_some (IfExp_ (isTrue_chain (wpAny_Constant_int (test_link (ldL P₃ rfl (le_int (wpAny_truthy_bool ?_))))))))
    by_cases h0 : (0 : Int) ≤ F.k
    · rw [decide_eq_true h0, if_pos rfl]
      refine test_last (ldL P₃ rfl (le_int (wpAny_truthy_bool ?_)))
      by_cases h1 : F.k ≤ (F.width : Int)
      · rw [decide_eq_true h1, if_pos rfl]
        refine wpAny_BinOp (wpAny_Constant_str (wpAny_BinOp (ldL P₃ rfl (ldL P₃ rfl (sub_int (mulB (by omega) (by omega) fun t' k' => ?_))))))
        refine ⟨_, rfl, P₃.fr.keep, P₃.up, hS, ?_⟩
        unfold Fld.ends
        rw [if_pos q, if_pos ⟨h0, h1⟩]
        exact ⟨t', by rw [show ((F.width : Int) - F.k).toNat = F.width - F.k.toNat by omega]⟩
      · rw [decide_eq_false h1, if_neg (by decide)]
        refine Constant_none ⟨_, rfl, P₃.fr.keep, P₃.up, hS, ?_⟩
        unfold Fld.ends
        rw [if_pos q, if_neg (fun z => h1 z.2)]
        rfl
    · rw [decide_eq_false h0, if_neg (by decide)]
      refine Constant_none ⟨_, rfl, P₃.fr.keep, P₃.up, hS, ?_⟩
      unfold Fld.ends
      rw [if_pos q, if_neg (fun z => h0 z.1)]
      rfl
  · rw [decide_eq_false q, if_neg (by decide)]
    refine wpAny_execs_nil (wpAny_execs_cons (wpAny_If (wpAny_isTrue_Compare1 (ldL P₃ rfl (wpAny_Constant_int (lt_int (wpAny_truthy_bool ?_)))))))
    by_cases h0 : F.k < 0
    · rw [decide_eq_true h0, if_pos rfl]
      refine wpAny_execs_cons (wpAny_Return_some (ldL P₃ rfl ?_))
      refine ⟨_, rfl, P₃.fr.keep, P₃.up, hS, ?_⟩
      unfold Fld.ends
      rw [if_neg q, if_pos h0]
      exact ⟨_, rfl⟩
    · rw [decide_eq_false h0, if_neg (by decide)]
      refine wpAny_execs_nil (wpAny_execs_cons (wpAny_Assign_Name (Call_ (ldB T P₃ Boot.«min» (cB (aC (ldL P₃ rfl (aC (ldL P₃ rfl (args_nil (min_two_ints R₁.handled fun h₄ tk k₄ => ?_)))))))))))
      obtain ⟨tm, hm⟩ : ∃ tm, (if (F.a : Int) < F.k then Value.int (F.a : Int) t1 else .int F.k t4) = .int ((min F.k.toNat F.a : Nat) : Int) tm := by
        split
        · exact ⟨t1, by congr 1; omega⟩
        · exact ⟨t4, by congr 1; omega⟩
      rw [hm]
      refine stL (s := { s₃ with heap := h₄, toks := tk }) (P₃.grow k₄) fun s₅ S₅ _ P₅ => ?_
      refine wpAny_execs_cons (wpAny_Return_some (wpAny_BinOp (wpAny_BinOp (wpAny_BinOp (wpAny_Constant_str (wpAny_BinOp (ldL P₅ rfl (ldL P₅ rfl (sub_int (mulB (by omega) (by omega) fun t5 k5 => ?_))))))))))
      refine ldL (s := { s₅ with toks := k5 }) P₅ rfl (addS (by simp [blanks]; omega) fun t6 k6 => ?_)
      refine wpAny_BinOp <| wpAny_Constant_str <| Call_ <| ldB (s := { s₅ with toks := _ }) T P₅ Boot.«max» <| cB <| aC <| wpAny_Constant_int <| aC <| wpAny_BinOp <| ldL (s := { s₅ with toks := _ }) P₅ rfl <| wpAny_BinOp <|
        ldL (s := { s₅ with toks := _ }) P₅ rfl <| ldL (s := { s₅ with toks := _ }) P₅ rfl <| sub_int <| sub_int <| args_nil <| max_two_ints R₁.handled fun h₇ tk7 k₇ => ?_
      obtain ⟨tn, hn⟩ : ∃ tn : Tok → Tok → Tok, ∀ ta tb, (if (F.b : Int) - (F.k - ((min F.k.toNat F.a : Nat) : Int)) > 0 then Value.int ((F.b : Int) - (F.k - ((min F.k.toNat F.a : Nat) : Int))) ta else .int 0 tb) = .int ((F.b - (F.k.toNat - min F.k.toNat F.a) : Nat) : Int) (tn ta tb) := by
        by_cases hz : (F.b : Int) - (F.k - ((min F.k.toNat F.a : Nat) : Int)) > 0
        · exact ⟨fun ta _ => ta, fun ta tb => by rw [if_pos hz]; congr 1; omega⟩
        · exact ⟨fun _ tb => tb, fun ta tb => by rw [if_neg hz]; congr 1; omega⟩
      rw [hn]
      refine mulB (by omega) (by omega) fun t8 k8 => addS (by simp [blanks]; omega) fun t9 k9 => ?_
      have P₈ := P₅.grow k₇
      refine ⟨_, rfl, P₈.fr.keep, P₈.up, hS.trans S₅, ?_⟩
      unfold Fld.ends
      rw [if_neg q, if_neg h0]
      exact ⟨t9, by rw [show ((F.a : Int) - ((min F.k.toNat F.a : Nat) : Int)).toNat = F.a - min F.k.toNat F.a by omega]; rfl⟩
end
end Mine
end

-- part N9
section
open PySem PySem.W PySem.Calls PyProof.Rows PySem.SeqAt
set_option Elab.async false
namespace Mine

section
variable {w : World} {A : Around} {E : Value → Shared → Prop} {s : Shared} {h₀ base : Heap} {outer : List Env} {mg mb : Str → Option Value} {ad : Ads} {L f a e : Addr} {cd : Value} {M : Model}

theorem newL {items : List Value} {Q : Value → Shared → Prop} (hz : items.length ≤ 100000)
    (h : ∀ s' l, Same s s' → s.heap.StaysIn s'.heap → s.heap.objs.size ≤ l → s'.heap.get? l = some { cls := .type "list", data := .seq items.toArray } → Q (.ref l) s') : wpAny M A (newList items) Q E s :=
  wpAny_newList (h _ _ ⟨rfl, rfl⟩ (fun _ _ e => Heap.get?_push_of_some _ e) (Nat.le_refl _) (Heap.get?_push_size _ rfl)) (by rw [sizeLine_eq]; omega)
theorem newT {items : List Value} {Q : Value → Shared → Prop} (hz : items.length ≤ 100000)
    (h : ∀ s' l, Same s s' → s.heap.StaysIn s'.heap → s.heap.objs.size ≤ l → s'.heap.get? l = some { cls := .type "tuple", data := .seq items.toArray } → Q (.ref l) s') : wpAny M A (newTuple items) Q E s :=
  wpAny_newTuple (h _ _ ⟨rfl, rfl⟩ (fun _ _ e => Heap.get?_push_of_some _ e) (Nat.le_refl _) (Heap.get?_push_size _ rfl)) (by rw [sizeLine_eq]; omega)

theorem itemL {value slice : Expr} {l : Addr} {items : Array Value} {k : Nat} {u : Tok} {v : Value} {Q : Value → Shared → Prop} (hl : s.heap.IsList l items) (hk : k < 100000) (hx : items[k]? = some v) (h : Q v s)
    (hs : subscripted slice false (.ref l) (.int k u) = operate [.ref l, .int k u] (getItem (.ref l) (.int k u)) := by with_unfolding_all rfl) :
    wpAny (model pw w) A (subscriptTail value slice (.ref l) (.int k u)) Q E s :=
  tail_any hl.typeIs slot_list_getitem.lookup (wpAny_getItem_list hl (by omega) (by omega) (by simpa using hx) h) hs

theorem modN {x m : Nat} {t u : Tok} {Q : Value → Shared → Prop} (hm : m ≠ 0) (h : ∀ k, Q (.int ((x % m : Nat) : Int) k) { s with toks := s.toks + 1 }) : wpAny (model pw w) A (binaryOp .Mod (.int x t) (.int m u)) Q E s := by
  refine mod_int' (by omega) ?_
  rw [Int.fmod_eq_emod_of_nonneg _ (by omega), ← Int.natCast_emod]
  exact h _
theorem divN {x m : Nat} {t u : Tok} {Q : Value → Shared → Prop} (hm : m ≠ 0) (hm2 : m < 1000000) (h : ∀ k, Q (.int ((x / m : Nat) : Int) k) { s with toks := s.toks + 1 }) : wpAny (model pw w) A (binaryOp .FloorDiv (.int x t) (.int m u)) Q E s := by
  refine floordiv_int (by omega) ?_ (.inl (PyProof.noPylong_small (by omega)))
  rw [Int.fdiv_eq_ediv_of_nonneg _ (by omega), ← Int.natCast_ediv]
  exact h _

def words : List (List Nat) := [[], [97], [98, 32, 99], [9], [233]]
def fOf (x : Nat) : Fld :=
  { a := if x % 5 = 0 ∧ x / 5 % 4 + x / 20 % 4 = 0 then 1 else x / 5 % 4
    w := words.getD (x % 5) []
    b := x / 20 % 4
    k := ((x / 80 % 9 : Nat) : Int) - 1 }

theorem fldAt_mk {h : Heap} {t : Addr} {F : Fld} {a : Nat} {x : List Nat} {b : Nat} {k : Int} {t1 t2 t3 t4 : Tok} (e : h.get? t = some { cls := .type "tuple", data := .seq [.int a t1, .str ⟨x.toArray⟩ t2, .int b t3, .int k t4].toArray })
    (h1 : a = F.a) (h2 : x = F.w) (h3 : b = F.b) (h4 : k = F.k) : FldAt h t F := by
  subst h1 h2 h3 h4
  exact ⟨t1, t2, t3, t4, _, e, rfl, 0, rfl⟩

abbrev envX (L f : Addr) (cd : Value) : Env := envOf "_law_field" (fnScope (stAt 19)) L f cd

theorem field_spec (B : Bl A base outer s.heap) (T : Gl mg mb ad base) (R : Room A 2) (x : Nat) (u : Tok) :
    codeAny (model pw w) A (.call (.ref ad.lf) ⟨[.int x u], []⟩) (Ret base s (fun v h => ∃ t, v = .ref t ∧ FldAt h t (fOf x) ∧ s.heap.objs.size ≤ t)) s := by
  refine callF (binds := [("x", .int x u)]) B T.lim T.lf (by have := R.depth; omega) (fun _ _ _ => rfl) (by rfl) fun s₁ L cd S₁ P₁ => ?_
  have R₁ := R.deeper (envX L ad.lf cd)
  refine wpAny_execs_cons <| wpAny_Assign_Name <| Subscript_ <| List_ <| aC <| Constant_str <| aC <| Constant_str <| aC <| Constant_str <| aC <| Constant_str <| aC <| Constant_str <| args_nil <| newL (by simp) fun s₂ ll S₂ k₂ hll e₂ => ?_
  have P₂ := P₁.grow k₂
  refine wpAny_BinOp <| ldL P₂ rfl <| wpAny_Constant_int <| modN (by decide) fun k3 => ?_
  have h5 : x % 5 < 5 := Nat.mod_lt _ (by decide)
  obtain ⟨tw, hw⟩ : ∃ tw, (#[Value.str (Str.ofString "") s₁.toks, Value.str (Str.ofString "a") (s₁.toks + 1), Value.str (Str.ofString "b c") (s₁.toks + 1 + 1), Value.str (Str.ofString "\t") (s₁.toks + 1 + 1 + 1), Value.str (Str.ofString "é") (s₁.toks + 1 + 1 + 1 + 1)] : Array Value)[x % 5]? = some (.str ⟨(words.getD (x % 5) []).toArray⟩ tw) := by
    have : x % 5 = 0 ∨ x % 5 = 1 ∨ x % 5 = 2 ∨ x % 5 = 3 ∨ x % 5 = 4 := by omega
    rcases this with q | q | q | q | q <;> rw [q]
    · exact ⟨_, by rw [show Str.ofString "" = ⟨([] : List Nat).toArray⟩ by decide]; rfl⟩
    · exact ⟨_, by rw [show Str.ofString "a" = ⟨([97] : List Nat).toArray⟩ by decide]; rfl⟩
    · exact ⟨_, by rw [show Str.ofString "b c" = ⟨([98, 32, 99] : List Nat).toArray⟩ by decide]; rfl⟩
    · exact ⟨_, by rw [show Str.ofString "\t" = ⟨([9] : List Nat).toArray⟩ by decide]; rfl⟩
    · exact ⟨_, by rw [show Str.ofString "é" = ⟨([233] : List Nat).toArray⟩ by decide]; rfl⟩
  refine itemL (s := { s₂ with toks := _ }) (k := x % 5) ⟨_, e₂, rfl, _, rfl⟩ (Nat.lt_trans h5 (by decide)) hw ?_
  refine stL (s := { s₂ with toks := _ }) P₂ fun s₃ S₃ _ P₃ => ?_
  refine wpAny_execs_cons <| wpAny_Assign_Name <| wpAny_BinOp <| wpAny_BinOp <| ldL P₃ rfl <| wpAny_Constant_int <| divN (by decide) (by decide) fun _ => wpAny_Constant_int <| modN (by decide) fun t4 => stL (s := { s₃ with toks := _ }) P₃ fun s₄ S₄ _ P₄ => ?_
  refine wpAny_execs_cons <| wpAny_Assign_Name <| wpAny_BinOp <| wpAny_BinOp <| ldL P₄ rfl <| wpAny_Constant_int <| divN (by decide) (by decide) fun _ => wpAny_Constant_int <| modN (by decide) fun t5 => stL (s := { s₄ with toks := _ }) P₄ fun s₅ S₅ _ P₅ => ?_
  have hS : Same s s₅ := (((S₁.trans S₂).trans S₃).trans S₄).trans S₅
  clear P₁ P₂ P₃ P₄ S₁ S₂ S₃ S₄ S₅
  have heq : ((⟨(words.getD (x % 5) []).toArray⟩ : Str) == Str.ofString "") = decide (x % 5 = 0) := by
    have : x % 5 = 0 ∨ x % 5 = 1 ∨ x % 5 = 2 ∨ x % 5 = 3 ∨ x % 5 = 4 := by omega
    rcases this with q | q | q | q | q <;> rw [q] <;> decide
  have fin : ∀ s₆ (n : Nat) ta, n = (fOf x).a → Same s s₆ → Pt s.heap base outer L s₆.heap [("x", .int x u), ("word", .str ⟨(words.getD (x % 5) []).toArray⟩ tw), ("ahead", .int n ta), ("behind", .int ((x / 20 % 4 : Nat) : Int) t5)] →
      ∀ E', wpAny (model pw w) (A.deeper (envX L ad.lf cd)) (execs [stIn 19 4] (envX L ad.lf cd)) (fun fl s' => Ret base s (fun v h => ∃ t, v = .ref t ∧ FldAt h t (fOf x) ∧ s.heap.objs.size ≤ t) (.ok (.ret (match fl with | .ret v => v | _ => .none))) s') E' s₆ := by
    intro s₆ n ta hn S₆ P₆ E'
    refine wpAny_execs_cons <| wpAny_Return_some <| Tuple_ <| aC <| ldL P₆ rfl <| aC <| ldL P₆ rfl <| aC <| ldL P₆ rfl <| aC <| wpAny_BinOp <| wpAny_BinOp <| wpAny_BinOp <| ldL P₆ rfl <| wpAny_Constant_int <| divN (by decide) (by decide) fun _ =>
      wpAny_Constant_int <| modN (by decide) fun _ => wpAny_Constant_int <| sub_int <| args_nil <| newT (by simp) fun s₇ tt S₇ k₇ htt e₇ => ?_
    have P₇ := P₆.grow k₇
    exact ⟨_, rfl, P₇.fr.keep, P₇.up, S₆.trans S₇, tt, rfl, fldAt_mk (F := fOf x) e₇ hn rfl rfl rfl, Nat.le_trans P₆.new (Nat.le_trans (Nat.le_of_lt P₆.lt_size) htt)⟩
  refine wpAny_execs_cons <| wpAny_If <| isTrue_and <| wpAny_isTrue_Compare1 <| ldL P₅ rfl <| wpAny_Constant_str <| eq_str <| wpAny_truthy_bool ?_
  rw [heq]
  by_cases h0 : x % 5 = 0
  · rw [decide_eq_true h0, if_pos rfl]
    refine isTrue_and <| wpAny_isTrue_Compare1 <| wpAny_BinOp <| ldL (s := { s₅ with toks := _ }) P₅ rfl <| ldL (s := { s₅ with toks := _ }) P₅ rfl <| add_int <| wpAny_Constant_int <| eq_int <| wpAny_truthy_bool ?_
    by_cases h1 : x / 5 % 4 + x / 20 % 4 = 0
    · rw [if_pos (by simp; omega)]
      refine isTrue_and_nil ?_
      rw [if_pos rfl]
      refine wpAny_execs_cons <| wpAny_Assign_Name <| wpAny_Constant_int <| stL (s := { s₅ with toks := _ }) P₅ fun s₆ S₆ _ P₆ => wpAny_execs_nil ?_
      exact fin s₆ 1 _ (by unfold fOf; rw [if_pos ⟨h0, h1⟩]) (hS.trans S₆) P₆ _
    · rw [if_neg (by simp; omega), if_neg (by decide)]
      refine wpAny_execs_nil ?_
      refine fin _ (x / 5 % 4) t4 (by unfold fOf; rw [if_neg (fun z => h1 z.2)]) ?_ ?_ _
      · exact hS
      · exact P₅
  · rw [decide_eq_false h0, if_neg (by decide), if_neg (by decide)]
    refine wpAny_execs_nil ?_
    refine fin _ (x / 5 % 4) t4 (by unfold fOf; rw [if_neg (fun z => h0 z.1)]) ?_ ?_ _
    · exact hS
    · exact P₅
end
end Mine
end

-- part P1
section
open PySem PySem.W PySem.Calls PyProof.Rows
set_option Elab.async false
namespace Mine

/-- a field whose word neither begins nor ends with a blank -/
def Fld.Good (F : Fld) : Prop := F.w = [] ∨ (F.w ≠ [] ∧ F.w.head? ≠ some 32 ∧ F.w.getLast? ≠ some 32)

theorem takeWhile_blanks (n : Nat) (ys : List Nat) (h : ys.head? ≠ some 32) : lead (blanks n ++ ys) = n := by
  unfold lead blanks
  induction n with
  | zero =>
    cases ys with
    | nil => rfl
    | cons a r =>
      have : (a == 32) = false := by
        simp at h; simpa using h
      simp [List.takeWhile_cons, this]
  | succ n ih =>
    rw [List.replicate_succ, List.cons_append, List.takeWhile_cons]
    simpa using ih
theorem lead_due {F : Fld} (h : F.Good) : lead F.due = if F.w = [] then F.a + F.b else F.a := by
  unfold Fld.due
  rcases h with h | ⟨h0, h1, _⟩
  · rw [if_pos h, h, List.append_nil]
    have e : blanks F.a ++ blanks F.b = blanks (F.a + F.b) ++ [] := by unfold blanks; rw [List.append_nil, List.replicate_append_replicate]
    rw [e]
    exact takeWhile_blanks _ _ (by simp)
  · rw [if_neg h0, List.append_assoc]
    refine takeWhile_blanks _ _ ?_
    rw [List.head?_append]
    cases hw : F.w with
    | nil => exact absurd hw h0
    | cons a r => rw [hw] at h1; simpa using h1
theorem due_rev (F : Fld) : F.due.reverse = ({ F with a := F.b, w := F.w.reverse, b := F.a } : Fld).due := by
  unfold Fld.due blanks
  simp [List.reverse_append, List.append_assoc]
theorem lead_due_rev {F : Fld} (h : F.Good) : lead F.due.reverse = if F.w = [] then F.a + F.b else F.b := by
  rw [due_rev, lead_due]
  · by_cases q : F.w = []
    · simp [q, Nat.add_comm]
    · simp [q]
  · rcases h with h | ⟨h0, h1, h2⟩
    · exact .inl (by simp [h])
    · exact .inr ⟨by simpa using h0, by simpa [List.head?_reverse] using h2, by simpa [List.getLast?_reverse] using h1⟩
theorem due_length (F : Fld) : F.due.length = F.width := by unfold Fld.due Fld.width blanks; simp; omega
theorem drop_blanks (a n : Nat) (ys : List Nat) (h : n ≤ a) : (blanks a ++ ys).drop n = blanks (a - n) ++ ys := by
  unfold blanks
  rw [List.drop_append_of_le_length (by simpa using h), List.drop_replicate]
theorem take_blanks (b n : Nat) (ys : List Nat) (h : n ≤ b) : (ys ++ blanks b).take (ys.length + b - n) = ys ++ blanks (b - n) := by
  unfold blanks
  rw [show ys.length + b - n = ys.length + (b - n) by omega, List.take_length_add_append, List.take_replicate]
  congr 2
  omega

theorem strip_due {F : Fld} (h : F.Good) : stripOf F.due F.k = F.ends := by
  have hl := lead_due h
  have hr := lead_due_rev h
  have hn := due_length F
  unfold stripOf Fld.ends
  rw [hl, hr, hn]
  by_cases q : F.w = []
  · rw [if_pos q, if_pos q, if_pos q]
    have hw : F.width = F.a + F.b := by unfold Fld.width; simp [q]
    rw [hw]
    by_cases hk : 0 ≤ F.k ∧ F.k ≤ ((F.a + F.b : Nat) : Int)
    · rw [if_pos hk]
      have ht : takes F.k (F.a + F.b) = F.k.toNat := by unfold takes; rw [if_pos hk]
      rw [ht, if_neg (by omega)]
      have h0 : takes (F.k - (F.k.toNat : Int)) (F.a + F.b) = 0 := by unfold takes; rw [if_pos (by omega)]; omega
      rw [h0]
      congr 1
      have hd : F.due = blanks (F.a + F.b) ++ [] := by unfold Fld.due blanks; simp [q]
      rw [Nat.sub_zero, List.take_of_length_le (by rw [hn, hw]; exact Nat.le_refl _), hd, drop_blanks _ _ _ (by omega), List.append_nil]
    · rw [if_neg hk]
      have ht : takes F.k (F.a + F.b) = F.a + F.b := by unfold takes; rw [if_neg hk]
      rw [ht, if_pos ⟨by omega, rfl⟩]
  · rw [if_neg q, if_neg q, if_neg q]
    have hw : 0 < F.w.length := List.length_pos_iff.mpr q
    rw [if_neg (fun z => by have := z.2; unfold Fld.width at this; omega)]
    have hm := takes_le F.k F.a
    have hm2 := takes_le (F.k - takes F.k F.a) F.b
    have hd : (F.due.take (F.width - takes (F.k - takes F.k F.a) F.b)).drop (takes F.k F.a) = blanks (F.a - takes F.k F.a) ++ F.w ++ blanks (F.b - takes (F.k - takes F.k F.a) F.b) := by
      unfold Fld.due
      rw [show F.width - takes (F.k - takes F.k F.a) F.b = (blanks F.a ++ F.w).length + F.b - takes (F.k - takes F.k F.a) F.b by unfold Fld.width blanks; simp, take_blanks _ _ _ hm2, List.append_assoc, drop_blanks _ _ _ hm, List.append_assoc]
    rw [hd]
    by_cases hk : F.k < 0
    · rw [if_pos hk]
      have t1 : takes F.k F.a = F.a := by unfold takes; rw [if_neg (by omega)]
      rw [t1]
      have t2 : takes (F.k - (F.a : Int)) F.b = F.b := by unfold takes; rw [if_neg (by omega)]
      rw [t2]
      simp [blanks]
    · rw [if_neg hk]
      have t1 : takes F.k F.a = min F.k.toNat F.a := by unfold takes; split <;> omega
      have t2 : F.b - takes (F.k - ((min F.k.toNat F.a : Nat) : Int)) F.b = F.b - (F.k.toNat - min F.k.toNat F.a) := by unfold takes; split <;> omega
      rw [t1, t2]
end Mine
end

-- part S1
section
open PySem PySem.W PySem.Calls PyProof.Rows
set_option Elab.async false
namespace Mine

abbrev sk (w : World) : PySem.KeyKind pw w Str := PySem.strKind pw w

/-- a frozenset of strs, its elements ks -/
def FzAt (w : World) (h : Heap) (a : Addr) (ks : List Str) : Prop :=
  ∃ es ep t, h.get? a = some { cls := .type "frozenset", data := .set es ep t } ∧ ElemsOf (sk w) es.toList ∧ (∀ k, k ∈ ks ↔ ∃ e ∈ es.toList, (sk w).is k e.2 = true) ∧ es.size < scanBound ∧ t.fits es.size = true ∧ es.size = ks.length
theorem FzAt.keeps {w : World} {h h' : Heap} {a : Addr} {ks : List Str} (x : FzAt w h a ks) (k : h.StaysIn h') : FzAt w h' a ks :=
  let ⟨es, ep, t, e, r⟩ := x; ⟨es, ep, t, k _ _ e, r⟩
theorem FzAt.typeIs {w : World} {s : Shared} {a : Addr} {ks : List Str} (x : FzAt w s.heap a ks) : s.TypeIs (.ref a) "frozenset" := let ⟨_, _, _, e, _⟩ := x; ⟨_, e, rfl⟩

namespace Fz
theorem owner_frozenset : True := trivial
theorem slot_contains : Slot "frozenset" "__contains__" "frozenset.__contains__" :=
  .of (owner := "frozenset") (n := "__contains__") (by rw [typeLookup_type, builtinLookup_eq_fast]; kernel_rfl) (by decide +kernel) (by decide +kernel) (by decide +kernel)
    (by first | exact .inl (by decide +kernel) | exact .inr (by decide +kernel)) (by rw [isSubtype_type]; kernel_rfl)
theorem args_contains (a b : Value) : argsOk "frozenset.__contains__" ⟨[a, b], []⟩ := by unfold argsOk; kernel_rfl
theorem entry_contains : entryFor table "frozenset.__contains__" = some Builtin.«frozenset.__contains__» := entryFor_of_tree (by kernel_rfl)
end Fz

section
variable {w : World} {A : Around} {E : Value → Shared → Prop} {s : Shared} {a : Addr} {ks : List Str}

theorem fz_find {k : Str} {t : Tok} {Q : Option Nat → Shared → Prop} (hS : FzAt w s.heap a ks) (h : ∀ r : Option Nat, r.isSome = decide (k ∈ ks) → Q r s) :
    wpAny (model pw w) A (setFind a (.str k t) ((sk w).hash k)) Q E s := by
  obtain ⟨es, ep, tb, ho, hel, hmem, hb, hf, _⟩ := hS
  have hkey : (sk w).is k (.str k t) = true := PySem.strKind_is pw w k t
  unfold setFind setFindIn
  refine wpAny_bind (wpAny_setState_of ho rfl hf ?_)
  dsimp only
  rw [byScan_of rfl hb hel]
  simp only [↓reduceIte]
  refine wpAny_bind (wpAny_rule ?_)
  refine wpAny_bind (wpAny_setScan_of hkey ho rfl hf hel ?_)
  cases hr : List.findIdx? (fun e => (sk w).is k e.2) es.toList with
  | none =>
    refine wpAny_pure (h none ?_)
    rw [Option.isSome_none, eq_comm, decide_eq_false_iff_not, hmem]
    rintro ⟨e, he, hpe⟩
    have := List.findIdx?_eq_none_iff.mp hr e he
    rw [hpe] at this; cases this
  | some j =>
    refine wpAny_pure (h (some (0 + j)) ?_)
    rw [Option.isSome_some, eq_comm, decide_eq_true_eq, hmem]
    obtain ⟨hj, hpj, _⟩ := List.findIdx?_eq_some_iff_getElem.mp hr
    exact ⟨es.toList[j], List.getElem_mem hj, hpj⟩

theorem fz_contains {k : Str} {t : Tok} {Q : Bool → Shared → Prop} (hS : FzAt w s.heap a ks) (h : Q (decide (k ∈ ks)) { s with toks := s.toks + 1 }) :
    wpAny (model pw w) A (setContains a (.str k t)) Q E s := by
  have hkey : (sk w).is k (.str k t) = true := PySem.strKind_is pw w k t
  unfold setContains
  refine wpAny_holding (wpAny_bind ((sk w).pyHash hkey (wpAny_bind (fz_find (s := { s with toks := s.toks + 1 }) hS fun r hr => wpAny_pure ?_))))
  rw [hr]; exact h

theorem fz_in {k : Str} {t : Tok} {Q : Value → Shared → Prop} (hS : FzAt w s.heap a ks) (h : Q (.bool (decide (k ∈ ks))) { s with toks := s.toks + 1 }) :
    wpAny (model pw w) A (compareOp .In (.str k t) (.ref a)) Q E s := by
  show wpAny _ _ (do return .bool (← contains (.ref a) (.str k t))) Q E s
  refine wpAny_bind ?_
  unfold contains
  try with_reducible refine wpAny_holding ?_
  refine wpAny_bind (wpAny_specialOf hS.typeIs Fz.slot_contains.lookup ?_)
  show wpAny _ _ (if (some (Value.builtin "frozenset.__contains__") == some Value.none) = true then _ else _) _ E s
  rw [if_neg (by rw [beq_builtin_none]; exact Bool.false_ne_true)]
  refine wpAny_bind (wpAny_callSpecialUnlessNone?_slot (name := Str.ofString "__contains__") hS.typeIs Fz.slot_contains
    (wpAny_call_entry Fz.slot_contains hS.typeIs Fz.entry_contains ?_ (Fz.args_contains _ _)))
  unfold Builtin.«frozenset.__contains__» Builtin.Frozenset.oneOther
  simp only [List.isEmpty_nil, bind_assoc]
  unfold Builtin.Frozenset.addrOf Builtin.Frozenset.withSetAsKey
  refine wpAny_bind (wpAny_pure ?_)
  try dsimp only
  refine wpAny_bind (wpAny_pure ?_)
  try dsimp only
  refine wpAny_bind (wpAny_tryCatch (fz_contains hS ?_))
  exact wpAny_pure ⟨_, rfl, wpAny_truthy_bool (wpAny_pure h)⟩
end

theorem memP_fz {w : World} {base : Heap} {a : Addr} {cs : List Nat} (hS : FzAt w base a (cs.map fun c => ⟨#[c]⟩)) : MemP w base (.ref a) (fun c => decide (c ∈ cs)) := fun A s c t Q E st h => by
  refine fz_in (hS.keeps st) ?_
  have : decide ((⟨#[c]⟩ : Str) ∈ cs.map fun c => (⟨#[c]⟩ : Str)) = decide (c ∈ cs) := by
    congr 1
    rw [List.mem_map]
    refine propext ⟨fun ⟨d, hd, e⟩ => ?_, fun hc => ⟨c, hc, rfl⟩⟩
    injection e with e
    injection e with e
    injection e with e
    exact e ▸ hd
  rw [this]
  exact h _
end Mine
end

-- part S2
section
open PySem PySem.W PySem.Calls PyProof.Rows
set_option Elab.async false
namespace Mine

section
variable {w : World} {A : Around} {E : Value → Shared → Prop} {s : Shared} {a : Addr} {ks : List Str}

theorem fz_store {h : Heap} {es es' : Array (Int × Value)} {ep : Nat} {tb tb' : SetTable} (ho : h.get? a = some { cls := .type "frozenset", data := .set es ep tb }) :
    (h.update a (Obj.putSet es' tb')).get? a = some { cls := .type "frozenset", data := .set es' (ep + 1) tb' } :=
  Heap.get?_update_self (Obj.putSet es' tb') ho rfl

/-- the entries as a law: what they are, whatever their order -/
def Ents (w : World) (es : Array (Int × Value)) (ks : List Str) : Prop :=
  ElemsOf (sk w) es.toList ∧ (∀ k, k ∈ ks ↔ ∃ e ∈ es.toList, (sk w).is k e.2 = true) ∧ es.size = ks.length
theorem Ents.perm {es es' : Array (Int × Value)} (x : Ents w es ks) (p : List.Perm es'.toList es.toList) : Ents w es' ks :=
  ⟨x.1.perm p, fun k => (x.2.1 k).trans ⟨fun ⟨e, he, q⟩ => ⟨e, p.mem_iff.mpr he, q⟩, fun ⟨e, he, q⟩ => ⟨e, p.mem_iff.mp he, q⟩⟩, by rw [← x.2.2, ← Array.length_toList, p.length_eq, Array.length_toList]⟩
theorem FzAt.mk {h : Heap} {es : Array (Int × Value)} {ep : Nat} {tb : SetTable} (ho : h.get? a = some { cls := .type "frozenset", data := .set es ep tb }) (x : Ents w es ks) (hb : ks.length < scanBound) (hf : tb.fits es.size = true) : FzAt w h a ks :=
  ⟨es, ep, tb, ho, x.1, x.2.1, by rw [x.2.2]; exact hb, hf, x.2.2⟩

theorem Ents.push {es es' : Array (Int × Value)} {k : Str} {t : Tok} (x : Ents w es ks) (p : List.Perm es'.toList (es.toList ++ [((sk w).hash k, .str k t)])) : Ents w es' (ks ++ [k]) := by
  have hkey : (sk w).is k (.str k t) = true := PySem.strKind_is pw w k t
  refine ⟨(x.1.push hkey rfl).perm p, fun k' => ?_, ?_⟩
  · rw [List.mem_append, List.mem_singleton, x.2.1 k']
    constructor
    · rintro (⟨e, he, q⟩ | rfl)
      · exact ⟨e, p.mem_iff.mpr (List.mem_append_left _ he), q⟩
      · exact ⟨_, p.mem_iff.mpr (List.mem_append_right _ (.head _)), hkey⟩
    · rintro ⟨e, he, q⟩
      rcases List.mem_append.mp (p.mem_iff.mp he) with he | he
      · exact .inl ⟨e, he, q⟩
      · rw [List.mem_singleton] at he; subst he
        exact .inr ((sk w).inj _ k' k q hkey)
  · rw [← Array.length_toList, p.length_eq, List.length_append, List.length_append, Array.length_toList, x.2.2]; rfl

theorem fz_addTail {g : Bool → Sem Unit} (hg : ∀ (b : Bool) (s₁ : Shared) (Q' : Unit → Shared → Prop), Q' () s₁ → wpAny (model pw w) A (g b) Q' E s₁)
    {es es1 : Array (Int × Value)} {ep : Nat} {tb t2 : SetTable} {ks' : List Str} (ho : s.heap.get? a = some { cls := .type "frozenset", data := .set es ep tb }) (x : Ents w es1 ks') (hb : ks'.length < scanBound)
    (hf2 : t2.fits es1.size = true) {wasDummy : Bool} {R : Option Bool → Shared → Prop}
    (h : ∀ h', Heap.SameBut a s.heap h' → FzAt w h' a ks' → R (some true) { s with heap := h' }) :
    wpAny (model pw w) A (do
        storeSet a es1 t2
        if (!wasDummy && t2.tooFull) = true then do
            g (relayAll t2 es1 (SetTable.grown es1.size)).2.2
            storeSet a (relayAll t2 es1 (SetTable.grown es1.size)).1 (relayAll t2 es1 (SetTable.grown es1.size)).2.1
            pure (some true)
          else pure (some true)) R E s := by
  have hb1 : es1.size < scanBound := by rw [x.2.2]; exact hb
  refine wpAny_bind (wpAny_storeSet_of ho rfl ?_ (fits_of_scanBound hb1))
  have ho1 := fz_store (es' := es1) (tb' := t2) ho
  have sb1 := Heap.SameBut.update s.heap a (Obj.putSet es1 t2)
  split
  · have hp := relayAll_perm t2 es1 (SetTable.grown es1.size)
    have hfr := relayAll_fits t2 es1 (SetTable.grown es1.size)
    generalize relayAll t2 es1 (SetTable.grown es1.size) = Rl at hp hfr ⊢
    obtain ⟨es2, t3, gave2⟩ := Rl
    have x2 := x.perm hp
    refine wpAny_bind (hg _ _ _ ?_)
    refine wpAny_bind (wpAny_storeSet_of ho1 rfl ?_ (fits_of_scanBound (by rw [x2.2.2]; exact hb)))
    exact wpAny_pure (h _ (sb1.trans (Heap.SameBut.update _ a _)) (.mk (fz_store ho1) x2 hb hfr))
  · exact wpAny_pure (h _ sb1 (.mk ho1 x hb hf2))

theorem fz_add {k : Str} {t : Tok} {Q : Bool → Shared → Prop} (hS : FzAt w s.heap a ks) (hroom : ks.length + 1 < scanBound)
    (h : ∀ h', Heap.SameBut a s.heap h' → FzAt w h' a (if k ∈ ks then ks else ks ++ [k]) → Q (!decide (k ∈ ks)) { s with heap := h' }) :
    wpAny (model pw w) A (setAddHashed a (.str k t) ((sk w).hash k)) Q E s := by
  obtain ⟨es, ep, tb, ho, hel, hmem, hb, hf, hn⟩ := hS
  have hkey : (sk w).is k (.str k t) = true := PySem.strKind_is pw w k t
  unfold setAddHashed setAddHashedIn
  refine wpAny_holding (wpAny_bind (wpAny_setState_of ho rfl hf ?_))
  dsimp only
  rw [byScan_of rfl hb hel]
  simp only [↓reduceIte]
  unfold setAddByScan
  refine wpAny_bind ?_
  refine wpAny_bind (wpAny_rule ?_)
  refine wpAny_bind (wpAny_setScan_of hkey ho rfl hf hel ?_)
  cases hr : List.findIdx? (fun e => (sk w).is k e.2) es.toList with
  | some j =>
    obtain ⟨hj, hpj, _⟩ := List.findIdx?_eq_some_iff_getElem.mp hr
    have hk : k ∈ ks := (hmem k).mpr ⟨es.toList[j], List.getElem_mem hj, hpj⟩
    refine wpAny_pure (wpAny_pure ?_)
    have := h s.heap (Heap.SameBut.refl a s.heap) (by rw [if_pos hk]; exact ⟨es, ep, tb, ho, hel, hmem, hb, hf, hn⟩)
    rw [decide_eq_true hk] at this
    exact this
  | none =>
    have hk : k ∉ ks := fun q => by
      obtain ⟨e, he, hpe⟩ := (hmem k).mp q
      have := List.findIdx?_eq_none_iff.mp hr e he
      rw [hpe] at this; cases this
    have hgw : ∀ (b : Bool) {s₁ : Shared} {Q' : Unit → Shared → Prop}, Q' () s₁ → wpAny (model pw w) A (match b with | true => rule "set.scan.the-table-gave-way" | false => pure ()) Q' E s₁ :=
      fun b s₁ Q' hq => by cases b <;> first | exact wpAny_pure hq | exact wpAny_rule hq
    have hperm := layNew_perm tb es ((sk w).hash k) (.str k t)
    have hfits := layNew_fits tb es ((sk w).hash k) (.str k t)
    dsimp only
    generalize layNew tb es ((sk w).hash k) (.str k t) = Ly at hperm hfits ⊢
    obtain ⟨es1, t1, wasDummy, gave⟩ := Ly
    dsimp only at hperm hfits ⊢
    rw [Array.toList_push] at hperm
    have x1 : Ents w es1 (ks ++ [k]) := Ents.push ⟨hel, hmem, hn⟩ hperm
    have hb1 : (ks ++ [k]).length < scanBound := by rw [List.length_append]; exact hroom
    have hend : ∀ h', Heap.SameBut a s.heap h' → FzAt w h' a (ks ++ [k]) → Q true { s with heap := h' } := by
      intro h' hsb hS'
      have := h h' hsb
      rw [if_neg hk, decide_eq_false hk] at this
      exact this hS'
    refine wpAny_bind (hgw _ ?_)
    split
    · refine wpAny_bind ?_
      rw [hashByValue_scannable 8 rfl]
      refine wpAny_pure ?_
      refine fz_addTail ?_ ho x1 hb1 ?_ ?_
      · intro b s₁ Q' hq; cases b <;> first | exact wpAny_pure hq | exact wpAny_rule hq
      · split
        · exact hfits
        · exact SetTable.fits_plain_off hfits
      · intro h' hsb hS'; exact wpAny_pure (hend h' hsb hS')
    · refine wpAny_bind (wpAny_pure ?_)
      simp only [↓reduceIte]
      refine fz_addTail ?_ ho x1 hb1 hfits ?_
      · intro b s₁ Q' hq; cases b <;> first | exact wpAny_pure hq | exact wpAny_rule hq
      · intro h' hsb hS'; exact wpAny_pure (hend h' hsb hS')

theorem fz_setAdd {k : Str} {t : Tok} {Q : Bool → Shared → Prop} (hS : FzAt w s.heap a ks) (hroom : ks.length + 1 < scanBound)
    (h : ∀ h', Heap.SameBut a s.heap h' → FzAt w h' a (if k ∈ ks then ks else ks ++ [k]) → Q (!decide (k ∈ ks)) { s with heap := h', toks := s.toks + 1 }) :
    wpAny (model pw w) A (setAdd a (.str k t)) Q E s := by
  have hkey : (sk w).is k (.str k t) = true := PySem.strKind_is pw w k t
  unfold setAdd
  exact wpAny_holding (wpAny_bind ((sk w).pyHash hkey (fz_add (s := { s with toks := s.toks + 1 }) hS hroom h)))

theorem fz_new {Q : Value → Shared → Prop}
    (h : ∀ led : Bool, FzAt w (s.heap.push { cls := .type "frozenset", data := .set #[] 0 (.fresh 0 0 led) }) s.heap.objs.size [] →
      Q (.ref s.heap.objs.size) { s with heap := s.heap.push { cls := .type "frozenset", data := .set #[] 0 (.fresh 0 0 led) } }) :
    wpAny (model pw w) A (newSet (.type "frozenset")) Q E s := by
  unfold newSet setsByText
  refine wpAny_bind (wpAny_bind (wpAny_askSetting (wpAny_pure ?_)))
  dsimp only
  simp only [newObj]
  exact wpAny_bind (wpAny_alloc (wpAny_pure (h _ ⟨#[], 0, _, Heap.get?_push_size _ rfl, fun e he => by simp at he, fun k => by simp, by decide, by rfl, rfl⟩)))

/-- what a loop over a walk's strs adds -/
def addAll (val : Nat → Str) : Nat → List Str
  | 0 => []
  | n + 1 => if val n ∈ addAll val n then addAll val n else addAll val n ++ [val n]
theorem addAll_len (val : Nat → Str) : ∀ n, (addAll val n).length ≤ n
  | 0 => Nat.le_refl _
  | n + 1 => by unfold addAll; have := addAll_len val n; split <;> simp <;> omega

theorem fz_loop {I : Addr} {fp wr : List Addr} {n : Nat} {P : Nat → Value → Prop} {St : Nat → Heap → Prop} {R : Result → Shared → Prop} (W : Walks pw w A.in1 I fp wr n P St) (hSf : a ∉ fp)
    (val : Nat → Str) (hval : ∀ i v, P i v → ∃ t, v = .str (val i) t) (hb : n + 1 < scanBound)
    (hst : St 0 s.heap) (hS : FzAt w s.heap a [])
    (hR : ∀ s', Same s s' → (∀ b o, b ≠ a → b ∉ wr → s.heap.get? b = some o → s'.heap.get? b = some o) → FzAt w s'.heap a (addAll val n) → R (.ok (.ret .none)) s') :
    codeAny (model pw w) A (.builtin "set.update.loop" ⟨[.ref a, .ref I], []⟩) R s := by
  have key : ∀ (k i : Nat) (s₁ : Shared), n - i = k → i ≤ n → St i s₁.heap → FzAt w s₁.heap a (addAll val i) → Same s s₁ → (∀ b o, b ≠ a → b ∉ wr → s.heap.get? b = some o → s₁.heap.get? b = some o) →
      codeAny (model pw w) A (.builtin "set.update.loop" ⟨[.ref a, .ref I], []⟩) R s₁ := by
    intro k
    induction k with
    | zero =>
      intro i s₁ hk hi hst hS S₁ hk₁
      have hin : i = n := by omega
      subst hin
      refine codeAny_builtin PyProof.Rows.F.entry_set_update_loop ?_
      rw [Around.under_plainId PyProof.Rows.F.plain_set_update_loop]
      unfold Builtin.«set.update.loop»
      refine wpAny_bind (W.done s₁ _ _ hst fun h' tk hk' => ?_)
      refine wpAny_pure (hR _ S₁ (fun b o h1 h2 e => hk' b o h2 (hk₁ b o h1 h2 e)) ?_)
      obtain ⟨es, ep, tb, ho, r⟩ := hS
      exact ⟨es, ep, tb, hk' _ _ (fun q => hSf (W.sub _ q)) ho, r⟩
    | succ k ih =>
      intro i s₁ hk hi hst hS S₁ hk₁
      refine codeAny_builtin PyProof.Rows.F.entry_set_update_loop ?_
      rw [Around.under_plainId PyProof.Rows.F.plain_set_update_loop]
      unfold Builtin.«set.update.loop»
      refine wpAny_bind (W.item i s₁ _ _ (by omega) hst fun v h' tk hv hst' hk' => ?_)
      obtain ⟨t, rfl⟩ := hval i v hv
      have hS' : FzAt w h' a (addAll val i) := by
        obtain ⟨es, ep, tb, ho, r⟩ := hS
        exact ⟨es, ep, tb, hk' _ _ (fun q => hSf (W.sub _ q)) ho, r⟩
      have := addAll_len val i
      refine wpAny_bind (wpAny_holding (fz_setAdd (s := { s₁ with heap := h', toks := tk }) hS' (by omega) fun h₂ sb₂ hS₂ => ?_))
      refine wpAny_pure ⟨plainId_quiet PyProof.Rows.F.plain_set_update_loop _, ih (i + 1) _ (by omega) (by omega) ?_ hS₂ S₁ fun b o h1 h2 e => ?_⟩
      · exact W.frame _ _ _ hst' fun b hb o e => sb₂.extBut b o (fun q => hSf (q ▸ hb)) e
      · exact sb₂.extBut b o h1 (hk' b o h2 (hk₁ b o h1 h2 e))
  exact key n 0 s rfl (Nat.zero_le _) hst hS (Same.refl _) fun _ _ _ _ e => e
end
end Mine
end

-- part S3
section
open PySem PySem.W PySem.Calls PyProof.Rows
set_option Elab.async false
set_option maxRecDepth 100000
namespace Mine
namespace Fz
theorem mro_fz : mroOf (.type "frozenset") = pure [.type "frozenset", .type "object"] := by rw [mroOf_type]; kernel_rfl
theorem lookup_new : typeLookup (.type "frozenset") "__new__" = pure (some (.builtin "frozenset.__new__")) := by rw [typeLookup_type, builtinLookup_eq_fast]; kernel_rfl
theorem lookup_init : typeLookup (.type "frozenset") "__init__" = pure (some (.builtin "object.__init__")) := by rw [typeLookup_type, builtinLookup_eq_fast]; kernel_rfl
theorem slot_init : Slot "frozenset" "__init__" "object.__init__" :=
  .of (owner := "object") (n := "__init__") (by rw [typeLookup_type, builtinLookup_eq_fast]; kernel_rfl) (by decide +kernel) (by decide +kernel) (by decide +kernel)
    (by first | exact .inl (by decide +kernel) | exact .inr (by decide +kernel)) (by rw [isSubtype_type]; kernel_rfl)
theorem called : TypeCalled "frozenset" "frozenset.__new__" "object.__init__" :=
  ⟨by decide +kernel, by decide +kernel, ⟨_, _, mro_fz⟩, madeBy_type mro_fz lookup_new (by decide +kernel), by decide +kernel, by rw [isSubtype_type]; kernel_rfl, slot_init⟩
theorem typeCall (a : Value) : checkTypeCall "frozenset" ⟨[a], []⟩ = pure () := by kernel_rfl
theorem newCall (a : Value) : checkBuiltinCall "frozenset.__new__" ⟨[.type "frozenset", a], []⟩ = pure () := by kernel_rfl
theorem initArgs (obj a : Value) : argsOk "object.__init__" ⟨[obj, a], []⟩ := PySem.F.initArgs_range_1 obj a
theorem entry_new : entryFor table "frozenset.__new__" = some Builtin.«frozenset.__new__» := entryFor_of_tree (by kernel_rfl)
theorem sub_self : isSubtype (.type "frozenset") (.type "frozenset") = pure true := by rw [isSubtype_type]; kernel_rfl
end Fz

section
variable {w : World} {A : Around} {E : Value → Shared → Prop} {s : Shared}
theorem fz_call {x : Value} {Q : Value → Shared → Prop}
    (h : wpAny (model pw w) A.in1.in1 (Builtin.«frozenset.__new__» ⟨[.type "frozenset", x], []⟩) (fun fin s' => ∃ v, fin = .done (.ret v) ∧ s'.TypeIs v "frozenset" ∧ Q v s') E s) :
    wpAny (model pw w) A (call (.type "frozenset") [x]) Q E s :=
  callType_newIn Fz.called (by decide) (Fz.typeCall x) (Fz.newCall x) (fun obj => Fz.initArgs obj x) Fz.entry_new
    (S := fun A R s => wpAny (model pw w) A.in1 (Builtin.«frozenset.__new__» ⟨[.type "frozenset", x], []⟩) (fun fin s' => ∃ v, fin = .done (.ret v) ∧ R (.ok (.ret v)) s') (fun e s' => R (.error e) s') s)
    (.of_wp fun A R s h => h) h

theorem fz_new_head {x : Value} {T : String} {Q : Fin → Shared → Prop} (hx : s.TypeIs x T) (hT : (Value.type T == Value.type "frozenset") = false)
    (h : ∀ led : Bool, FzAt w (s.heap.push { cls := .type "frozenset", data := .set #[] 0 (.fresh 0 0 led) }) s.heap.objs.size [] →
      wpAny (model pw w) A (Builtin.Frozenset.updateFrom "frozenset.__new__" s.heap.objs.size x) (fun _ s' => Q (.done (.ret (.ref s.heap.objs.size))) s') E { s with heap := s.heap.push { cls := .type "frozenset", data := .set #[] 0 (.fresh 0 0 led) } }) :
    wpAny (model pw w) A (Builtin.«frozenset.__new__» ⟨[.type "frozenset", x], []⟩) Q E s := by
  unfold Builtin.«frozenset.__new__» Builtin.Frozenset.newClass
  have hsub := Fz.sub_self
  have hini := Fz.lookup_init
  obtain ⟨hp, g, d, tk, os⟩ := s
  dsimp only
  wp_walk
  refine wpAny_askSetting (wpAny_pure ?_)
  dsimp only
  simp only [newObj]
  refine wpAny_bind (wpAny_alloc (wpAny_pure ?_))
  refine wpAny_bind (wpAny_pure (wpAny_bind (wpAny_holding (wpAny_mono (h _ ⟨#[], 0, _, Heap.get?_push_size _ rfl, fun e he => by simp at he, fun k => by simp, by decide, by rfl, rfl⟩) (fun _ s' hq => wpAny_pure (wpAny_pure hq)) fun _ _ e => e))))

theorem fz_update_str {a : Addr} {x : Str} {t : Tok} {Q : Unit → Shared → Prop} (hh : A.handled = none) (hx : x.cps.size < 1000) (hS : FzAt w s.heap a [])
    (h : ∀ s', Same s s' → (∀ b o, b ≠ a → s.heap.get? b = some o → s'.heap.get? b = some o) → FzAt w s'.heap a (addAll (fun i => ⟨#[x.cps.toList[i]?.getD 0]⟩) x.cps.size) → Q () s') :
    wpAny (model pw w) A (Builtin.Frozenset.updateFrom "frozenset.__new__" a (.str x t)) Q E s := by
  unfold Builtin.Frozenset.updateFrom Builtin.Frozenset.isAnySet
  have h1 := PySem.F.sub_str_set
  have h2 := PySem.F.sub_str_frozenset
  have ha : a ≠ s.heap.objs.size := by obtain ⟨_, _, _, e, _⟩ := hS; exact Nat.ne_of_lt (Heap.lt_size e)
  have fin : wpAny (model pw w) A (do let _ ← runValue (.builtin "set.update.loop" ⟨[.ref a, ← pyIter (.str x t)], []⟩)) Q E s := by
    refine wpAny_bind (wpAny_pyIter_str fun o St W hst => ?_)
    refine wpAny_bind (wpAny_runValue ?_)
    refine fz_loop (W A.in1 hh) (by simpa using ha) (fun i => ⟨#[x.cps.toList[i]?.getD 0]⟩) (fun i v hv => ?_) (by rw [show scanBound = 4096 from rfl]; omega) hst (hS.keeps fun _ _ e => Heap.get?_push_of_some _ e) fun s' S' k' hF => ?_
    · obtain ⟨c, u, hc, rfl⟩ := hv
      exact ⟨u, by rw [← Array.getElem?_toList] at hc; rw [hc]; rfl⟩
    · exact wpAny_pure (h s' S' (fun b o hb e => k' b o hb (by simpa using Nat.ne_of_lt (Heap.lt_size e)) (Heap.get?_push_of_some _ e)) hF)
  refine wpAny_bind (wpAny_bind (m := isInstance (.str x t) (.type "set")) (wpAny_isInstance (typeIs_str s x t) h1 ?_))
  show wpAny (model pw w) A (isInstance (.str x t) (.type "frozenset")) _ _ s
  refine wpAny_isInstance (typeIs_str s x t) h2 ?_
  simp only [Bool.false_eq_true, if_false]
  refine wpAny_bind (m := typeOf (.str x t)) (wpAny_pure ?_)
  rw [if_neg (by decide)]
  exact fin

theorem fz_of_str {x : Str} {t : Tok} {Q : Value → Shared → Prop} (hh : A.handled = none) (hx : x.cps.size < 1000)
    (h : ∀ s' a, Same s s' → s.heap.StaysIn s'.heap → s.heap.objs.size ≤ a → FzAt w s'.heap a (addAll (fun i => ⟨#[x.cps.toList[i]?.getD 0]⟩) x.cps.size) → Q (.ref a) s') :
    wpAny (model pw w) A (call (.type "frozenset") [.str x t]) Q E s := by
  refine fz_call (fz_new_head (typeIs_str s x t) (by decide) fun led hS => fz_update_str hh hx hS fun s' S' k' hF => ?_)
  refine ⟨_, rfl, hF.typeIs, h s' _ S' (fun b o e => k' b o (Nat.ne_of_lt (Heap.lt_size e)) (Heap.get?_push_of_some _ e)) (Nat.le_refl _) hF⟩
end
end Mine
end

-- part N10
section
open PySem PySem.W PySem.Calls PyProof.Rows PySem.SeqAt
set_option Elab.async false
namespace Mine

theorem listP_of (cs : List Nat) (items : Array Value) (h : ∀ v ∈ items, ∃ c ∈ cs, ∃ t, v = .str ⟨#[c]⟩ t) (h2 : ∀ c ∈ cs, ∃ v ∈ items, ∃ t, v = .str ⟨#[c]⟩ t) : ListP items (fun c => decide (c ∈ cs)) := by
  intro c
  refine ⟨fun v => match v with | .str y _ => y == ⟨#[c]⟩ | _ => false, fun y hy A s t => ?_, ?_⟩
  · obtain ⟨d, _, u, rfl⟩ := h y hy
    exact EqAt.str_str _ _ _ _
  · rw [Bool.eq_iff_iff, Array.any_eq_true', decide_eq_true_eq]
    constructor
    · rintro ⟨v, hv, hq⟩
      obtain ⟨d, hd, u, rfl⟩ := h v hv
      have := eq_of_beq hq
      injection this with e
      injection e with e
      injection e with e
      exact e ▸ hd
    · intro hc
      obtain ⟨v, hv, t, rfl⟩ := h2 c hc
      exact ⟨_, hv, beq_self_eq_true _⟩

theorem eqInt (A : Around) (s : Shared) (a : Int) (t u : Tok) : EqAt A s (.int a t) (.int a u) true := by
  have := EqAt.int_int (A := A) (s := s) a t a u
  rwa [beq_self_eq_true] at this
theorem skip_lead (xs : List Nat) : skipN (fun c => decide (c ∈ [32])) xs 0 = lead xs := by
  unfold skipN lead
  rw [List.drop_zero]
  congr 2
  funext c
  simp
  rfl
theorem rev_str (x : Str) (u : Tok) : Txt.sliceBy x none none (-1, u) = ⟨x.cps.toList.reverse.toArray⟩ := by
  refine Str.ext' (Array.ext' ?_)
  rw [step_rev_list]
  apply List.ext_getElem
  · simp [Str.length]
  · intro i h1 h2
    have hi : i < x.cps.size := by simpa [Str.length] using h1
    have h3 : x.cps.size - 1 - i < x.cps.size := by omega
    simp [Str.length, Array.getD_eq_getD_getElem?, h3]

section
variable {w : World} {A : Around} {E : Value → Shared → Prop} {s : Shared} {h₀ base : Heap} {outer : List Env} {mg mb : Str → Option Value} {ad : Ads} {L f a e : Addr} {cd : Value}

theorem sliceRev {value slice : Expr} {x : Str} {t u : Tok} {Q : Value → Shared → Prop} (hx : x.length ≤ 100000)
    (h : ∀ h' t' c, s.heap.StaysIn h' → Q (.str ⟨x.cps.toList.reverse.toArray⟩ t') { s with heap := h', toks := c })
    (hs : subscripted slice false (.str x t) (.ref s.heap.objs.size) = operate [.ref s.heap.objs.size, .str x t] (getItem (.str x t) (.ref s.heap.objs.size)) := by with_unfolding_all rfl)
    (ht : ∀ r, letTemporaryGo value (.str x t) r = pure () := by intro _; with_unfolding_all rfl) :
    wpAny (model pw w) A (subscriptTail value slice (.str x t) (.ref s.heap.objs.size)) Q E { s with heap := s.heap.push { cls := .type "slice", data := .fields #[.none, .none, .int (-1) u] } } :=
  tail_of_ItemOn ⟨"str", _, PySem.F.slot_str_getitem.lookup, typeIs_str _ _ _, wpAny_getItem_str_slice (l := none) (u := none) (st := some (-1, u)) ⟨_, Heap.get?_push_size _ rfl, rfl, rfl⟩ (by rfl)
    (post_val_or_str ⟨Nat.le_trans (Txt.sliceBy_le x _ _ (-1, u) (by show (-1 : Int) ≠ 0; decide)) (by rw [sizeLine_eq]; omega), fun t' c => by
      show Q (.str (Txt.sliceBy x none none (-1, u)) t') _
      rw [rev_str]; exact h _ t' c fun _ _ e => Heap.get?_push_of_some _ e⟩)⟩ hs ht

abbrev envA (L f : Addr) (cd : Value) : Env := envOf "_law_asked" (fnScope (stAt 24)) L f cd

theorem asked_spec (B : Bl A base outer s.heap) (T : Gl mg mb ad base) (R : Room A 5) (F : Fld) (hF : F.Ok) (hG : F.Good) (x : Str) (t : Tok) (i : Nat) (u tp : Tok) (hx : x.length ≤ 4000) (hi : i ≤ x.length) (fa : Addr) (ht : FldAt base fa F) :
    codeAny (model pw w) A (.call (.ref ad.la) ⟨[.str x t, .int i u, .str ⟨F.due.toArray⟩ tp, .ref fa], []⟩) (Ret base s (fun v _ => v = .bool true)) s := by
  refine callF (binds := [("text", .str x t), ("start", .int i u), ("piece", .str ⟨F.due.toArray⟩ tp), ("field", .ref fa)]) B T.lim T.la (by have := R.depth; omega) (fun _ _ _ => rfl) (by rfl) fun s₁ L cd S₁ P₁ => ?_
  have R₁ := R.deeper (envA L ad.la cd)
  have hA := B.stack
  obtain ⟨osc, _, _, _, hosc, hdsc, _⟩ := T.sc.there
  obtain ⟨olt, _, _, _, holt, hdlt, _⟩ := T.lt.there
  obtain ⟨ols, _, _, _, hols, hdls, _⟩ := T.ls.there
  obtain ⟨old, _, _, _, hold, hdld, _⟩ := T.ld.there
  obtain ⟨t1, t2, t3, t4, hT⟩ := ht.keeps P₁.fr.keep
  refine wpAny_execs_cons <| Assign_Tuple <| ldL P₁ rfl <| unpack4 R₁.handled P₁ hT fun s₂ S₂ _ P₂ => ?_
  -- the first question
  refine wpAny_execs_cons <| wpAny_If <| wpAny_isTrue_Compare1 <| Call_ <| ldG T P₂ T.sc.glob <| cD hdsc <| aC <| ldL P₂ rfl <| aC <| ldL P₂ rfl <| aC <| Constant_str <| args_nil ⟨P₂.fr.keep _ _ hosc, wpAny_call <|
    codeAny_mono (skip_chars_spec (by exact P₂.bl (env := envA L ad.la cd) hA rfl) (T.keeps P₂.base_in) (R₁.less (by omega)) x t i u _ _ hx hi (memP_str w _ _ _)) fun r s₃ h₃ => ?_⟩
  obtain ⟨v3, rfl, st₃, up₃, S₃, tr, rfl⟩ := h₃
  have P₃ := P₂.back st₃ up₃
  refine Call_ <| ldG T P₃ T.lt.glob <| cD hdlt <| aC <| ldL P₃ rfl <| aC <| ldL P₃ rfl <| aC <| List_ <| aC <| Constant_str <| args_nil <| newL (by simp) fun s₄ pa S₄ k₄ hpa e₄ => args_nil ?_
  have P₄ := P₃.grow k₄
  have hLpa : L < pa := Nat.lt_of_lt_of_le P₃.lt_size hpa
  refine ⟨P₄.fr.keep _ _ holt, wpAny_call <| codeAny_mono (first_spec (by exact P₄.bl (env := envA L ad.la cd) hA rfl) (T.keeps P₄.base_in) (R₁.less (by omega)) x t i u pa _ (fun c => decide (c ∈ [32])) hx hi
    ⟨_, P₄.inner_get hLpa e₄, rfl, _, rfl⟩ (listP_of [32] _ (fun v hv => ?_) fun c hc => ?_)) fun r s₅ h₅ => ?_⟩
  · simp at hv; exact ⟨32, .head _, _, hv.trans (by rw [show Str.ofString " " = ⟨#[32]⟩ by decide])⟩
  · simp at hc; subst hc; exact ⟨_, by simp; rfl, _, by rw [show Str.ofString " " = ⟨#[32]⟩ by decide]⟩
  obtain ⟨v5, rfl, st₅, up₅, S₅, tr5, rfl⟩ := h₅
  have P₅ := P₄.back st₅ up₅
  refine ne_int <| wpAny_truthy_bool ?_
  have e32 : (Str.ofString " ").cps.toList = [32] := by decide
  rw [e32, if_neg (by simp)]
  refine wpAny_execs_nil ?_
  have hS₅ : Same s s₅ := (((S₁.trans S₂).trans S₃).trans S₄).trans S₅
  clear S₁ S₂ S₃ S₄ S₅ P₁ P₂ P₃ P₄ st₃ up₃ st₅ up₅
  -- the second question
  refine wpAny_execs_cons <| wpAny_If <| wpAny_isTrue_Compare1 <| Call_ <| ldG T P₅ T.sc.glob <| cD hdsc <| aC <| ldL P₅ rfl <| aC <| ldL P₅ rfl <| aC <| Call_ <| ldB T P₅ Boot.«frozenset» <| cT <| aC <| Constant_str <| args_nil <|
    fz_of_str (s := { s₅ with toks := _ }) R₁.handled (by decide) fun s₆ fz S₆ k₆ hfz F₆ => args_nil ?_
  have P₆ := P₅.grow k₆
  have hLfz : L < fz := Nat.lt_of_lt_of_le P₅.lt_size hfz
  have F₆' : FzAt w (inner s₆.heap L outer) fz ([32, 9].map fun c => ⟨#[c]⟩) := by
    have e : addAll (fun i => (⟨#[(Str.ofString " \t").cps.toList[i]?.getD 0]⟩ : Str)) (Str.ofString " \t").cps.size = [32, 9].map fun c => ⟨#[c]⟩ := by decide
    rw [e] at F₆
    obtain ⟨es, ep, tb, ho, r⟩ := F₆
    exact ⟨es, ep, tb, P₆.inner_get hLfz ho, r⟩
  refine ⟨P₆.fr.keep _ _ hosc, wpAny_call <| codeAny_mono (skip_chars_spec (by exact P₆.bl (env := envA L ad.la cd) hA rfl) (T.keeps P₆.base_in) (R₁.less (by omega)) x t i u _ _ hx hi (memP_fz F₆')) fun r s₇ h₇ => ?_⟩
  obtain ⟨v7, rfl, st₇, up₇, S₇, tr7, rfl⟩ := h₇
  have P₇ := P₆.back st₇ up₇
  refine Call_ <| ldG T P₇ T.lt.glob <| cD hdlt <| aC <| ldL P₇ rfl <| aC <| ldL P₇ rfl <| aC <| List_ <| aC <| Constant_str <| aC <| Constant_str <| args_nil <| newL (by simp) fun s₈ pb S₈ k₈ hpb e₈ => args_nil ?_
  have P₈ := P₇.grow k₈
  have hLpb : L < pb := Nat.lt_of_lt_of_le P₇.lt_size hpb
  refine ⟨P₈.fr.keep _ _ holt, wpAny_call <| codeAny_mono (first_spec (by exact P₈.bl (env := envA L ad.la cd) hA rfl) (T.keeps P₈.base_in) (R₁.less (by omega)) x t i u pb _ (fun c => decide (c ∈ [32, 9])) hx hi
    ⟨_, P₈.inner_get hLpb e₈, rfl, _, rfl⟩ (listP_of [32, 9] _ (fun v hv => ?_) fun c hc => ?_)) fun r s₉ h₉ => ?_⟩
  · simp at hv
    rcases hv with hv | hv
    · exact ⟨32, .head _, _, hv.trans (by rw [show Str.ofString " " = ⟨#[32]⟩ by decide])⟩
    · exact ⟨9, .tail _ (.head _), _, hv.trans (by rw [show Str.ofString "\t" = ⟨#[9]⟩ by decide])⟩
  · simp at hc
    rcases hc with rfl | rfl
    · exact ⟨_, by simp; exact .inl rfl, _, by rw [show Str.ofString " " = ⟨#[32]⟩ by decide]⟩
    · exact ⟨_, by simp; exact .inr rfl, _, by rw [show Str.ofString "\t" = ⟨#[9]⟩ by decide]⟩
  obtain ⟨v9, rfl, st₉, up₉, S₉, tr9, rfl⟩ := h₉
  have P₉ := P₈.back st₉ up₉
  refine ne_int <| wpAny_truthy_bool ?_
  rw [if_neg (by simp)]
  refine wpAny_execs_nil ?_
  have hS₉ : Same s s₉ := (((hS₅.trans S₆).trans S₇).trans S₈).trans S₉
  clear hS₅ S₆ S₇ S₈ S₉ P₅ P₆ P₇ P₈ st₇ up₇ st₉ up₉
  replace P₉ : Pt s.heap base outer L s₉.heap [("field", .ref fa), ("piece", .str ⟨F.due.toArray⟩ tp), ("start", .int i u), ("text", .str x t), ("ahead", .int F.a t1), ("word", .str ⟨F.w.toArray⟩ t2), ("behind", .int F.b t3), ("amount", .int F.k t4)] := P₉
  have hld := lead_due hG
  have hlr := lead_due_rev hG
  have hne : ((⟨F.w.toArray⟩ : Str) != Str.ofString "") = !decide (F.w = []) := by
    have e : Str.ofString "" = ⟨([] : List Nat).toArray⟩ := by decide
    rw [e]
    by_cases q : F.w = []
    · rw [q]; simp
    · rw [decide_eq_false q]
      have : (⟨F.w.toArray⟩ : Str) ≠ ⟨([] : List Nat).toArray⟩ := fun z => q (by injection z with z; simpa using z)
      simpa using this
  -- the blanks that are due
  refine wpAny_execs_cons <| wpAny_Assign_Name <| wpAny_mono (Q := fun v s' => ∃ bl ta tb, v = .ref bl ∧ Same s s' ∧ L < bl ∧ s'.heap.get? bl = some { cls := .type "list", data := .seq [.int (lead F.due : Nat) ta, .int (lead F.due.reverse : Nat) tb].toArray } ∧
    Pt s.heap base outer L s'.heap [("field", .ref fa), ("piece", .str ⟨F.due.toArray⟩ tp), ("start", .int i u), ("text", .str x t), ("ahead", .int F.a t1), ("word", .str ⟨F.w.toArray⟩ t2), ("behind", .int F.b t3), ("amount", .int F.k t4)]) ?_ (fun v s₁₀ h₁₀ => ?_) fun _ _ z => z
  · refine IfExp_ <| wpAny_isTrue_Compare1 <| ldL P₉ rfl <| wpAny_Constant_str <| ne_str <| wpAny_truthy_bool ?_
    rw [hne]
    by_cases q : F.w = []
    · rw [decide_eq_true q, if_neg (by decide)]
      refine List_ <| aC <| wpAny_BinOp <| ldL (s := { s₉ with toks := _ }) P₉ rfl <| ldL (s := { s₉ with toks := _ }) P₉ rfl <| add_int <| aC <| wpAny_BinOp <| ldL (s := { s₉ with toks := _ }) P₉ rfl <| ldL (s := { s₉ with toks := _ }) P₉ rfl <| add_int <| args_nil <| newL (by simp) fun s' bl S' k' hbl e' => ?_
      rw [hld, hlr, if_pos q, if_pos q, Int.natCast_add]
      exact ⟨bl, _, _, rfl, hS₉.trans S', Nat.lt_of_lt_of_le P₉.lt_size hbl, e', P₉.grow k'⟩
    · rw [decide_eq_false q, if_pos (by decide)]
      refine List_ <| aC <| ldL (s := { s₉ with toks := _ }) P₉ rfl <| aC <| ldL (s := { s₉ with toks := _ }) P₉ rfl <| args_nil <| newL (by simp) fun s' bl S' k' hbl e' => ?_
      refine ⟨bl, t1, t3, rfl, hS₉.trans S', Nat.lt_of_lt_of_le P₉.lt_size hbl, ?_, P₉.grow k'⟩
      rw [hld, hlr, if_neg q, if_neg q, e']
  obtain ⟨bl, ta, tb, rfl, S₁₀, hLbl, e₁₀, P₁₀⟩ := h₁₀
  refine stL P₁₀ fun s₁₁ S₁₁ sb₁₁ P₁₁ => ?_
  have e₁₁ := (sb₁₁.2 bl (Nat.ne_of_gt hLbl)).trans e₁₀
  have hdl : F.due.length ≤ 3000 := by rw [due_length]; unfold Fld.width; have := hF.a; have := hF.b; have := hF.w; omega
  have hdx : (⟨F.due.toArray⟩ : Str).length ≤ 4000 := by rw [str_len]; omega
  -- the third question
  refine wpAny_execs_cons <| wpAny_If <| wpAny_isTrue_Compare1 <| List_ <| aC <| Call_ <| ldG T P₁₁ T.sc.glob <| cD hdsc <| aC <| ldL P₁₁ rfl <| aC <| wpAny_Constant_int <| aC <| Constant_str <| args_nil ⟨P₁₁.fr.keep _ _ hosc, wpAny_call <|
    codeAny_mono (skip_chars_spec (by exact P₁₁.bl (env := envA L ad.la cd) hA rfl) (T.keeps P₁₁.base_in) (R₁.less (by omega)) _ tp 0 _ _ _ hdx (Nat.zero_le _) (memP_str w _ _ _)) fun r s₁₂ h₁₂ => ?_⟩
  obtain ⟨v12, rfl, st₁₂, up₁₂, S₁₂, tr12, rfl⟩ := h₁₂
  have P₁₂ := P₁₁.back st₁₂ up₁₂
  have e₁₂ := st₁₂ _ _ (P₁₁.inner_get hLbl e₁₁)
  refine aC <| Call_ <| ldG T P₁₂ T.sc.glob <| cD hdsc <| aC <| Subscript_ <| ldL P₁₂ rfl <| wpAny_Slice <| evalPart_none_step <| evalPart_none_step <| evalPart_some_step <| UnaryOp_ <| wpAny_Constant_int <| neg_int <| ?_
  refine sliceRev (s := { s₁₂ with toks := _ }) (by omega) fun h₁₃ t13 c13 k₁₃ => ?_
  have P₁₃ : Pt s.heap base outer L h₁₃ _ := P₁₂.grow k₁₃
  have e₁₃ := k₁₃ _ _ e₁₂
  have hrx : (⟨F.due.reverse.toArray⟩ : Str).length ≤ 4000 := by rw [str_len, List.length_reverse]; omega
  refine aC <| wpAny_Constant_int <| aC <| Constant_str <| args_nil ⟨P₁₃.fr.keep _ _ hosc, wpAny_call <|
    codeAny_mono (skip_chars_spec (by exact P₁₃.bl (env := envA L ad.la cd) hA rfl) (T.keeps P₁₃.base_in) (R₁.less (by omega)) ⟨F.due.reverse.toArray⟩ t13 0 _ _ _ hrx (Nat.zero_le _) (memP_str w _ _ _)) fun r s₁₄ h₁₄ => ?_⟩
  obtain ⟨v14, rfl, st₁₄, up₁₄, S₁₄, tr14, rfl⟩ := h₁₄
  have P₁₄ := P₁₃.back st₁₄ up₁₄
  have e₁₄ := st₁₄ _ _ (P₁₃.inner_get hLbl e₁₃)
  have hS₁₄ : Same s s₁₄ := ((S₁₀.trans S₁₁).trans S₁₂).trans S₁₄
  refine args_nil <| newL (by simp) fun s₁₅ l2 S₁₅ k₁₅ hl2 e₁₅ => ?_
  have P₁₅ := P₁₄.grow k₁₅
  have e₁₅' := k₁₅ _ _ e₁₄
  refine ldL P₁₅ rfl <| cmp_ofNotEq <| RcNeAt.lists (e := fun _ => true) ⟨_, e₁₅, rfl, _, rfl⟩ ⟨_, e₁₅', rfl, _, rfl⟩ rfl (Nat.lt_of_le_of_lt (Nat.le_add_right _ _) R₁.units) (fun j h1 h2 => ?_) _ _ _ _ <| wpAny_truthy_bool ?_
  · have q1 : (0 + skipN (fun c => decide (c ∈ (Str.ofString " ").cps.toList)) (⟨F.due.toArray⟩ : Str).cps.toList 0) = lead F.due := by rw [e32, Nat.zero_add]; exact skip_lead _
    have q2 : (0 + skipN (fun c => decide (c ∈ (Str.ofString " ").cps.toList)) (⟨F.due.reverse.toArray⟩ : Str).cps.toList 0) = lead F.due.reverse := by rw [e32, Nat.zero_add]; exact skip_lead _
    have hj : j = 0 ∨ j = 1 := by simp at h1; omega
    rcases hj with rfl | rfl
    · show EqAt _ s₁₅ (.int ((0 + skipN (fun c => decide (c ∈ (Str.ofString " ").cps.toList)) (⟨F.due.toArray⟩ : Str).cps.toList 0 : Nat) : Int) tr12) (.int ((lead F.due : Nat) : Int) ta) true
      rw [q1]
      exact eqInt _ _ _ _ _
    · show EqAt _ s₁₅ (.int ((0 + skipN (fun c => decide (c ∈ (Str.ofString " ").cps.toList)) (⟨F.due.reverse.toArray⟩ : Str).cps.toList 0 : Nat) : Int) tr14) (.int ((lead F.due.reverse : Nat) : Int) tb) true
      rw [q2]
      exact eqInt _ _ _ _ _
  rw [if_neg (by show ¬ ((!(List.range 2).all fun _ => true) = true); decide)]
  refine wpAny_execs_nil ?_
  -- the last
  refine wpAny_execs_cons <| wpAny_Return_some <| wpAny_Compare1 <| Call_ <| ldG T P₁₅ T.ls.glob <| cD hdls <| aC <| ldL P₁₅ rfl <| aC <| ldL P₁₅ rfl <| args_nil ⟨P₁₅.fr.keep _ _ hols, wpAny_call <|
    codeAny_mono (stripped_spec (by exact P₁₅.bl (env := envA L ad.la cd) hA rfl) (T.keeps P₁₅.base_in) (R₁.less (by omega)) ⟨F.due.toArray⟩ tp F.k t4 hdx) fun r s₁₆ h₁₆ => ?_⟩
  obtain ⟨v16, rfl, st₁₆, up₁₆, S₁₆, h16⟩ := h₁₆
  have P₁₆ := P₁₅.back st₁₆ up₁₆
  refine Call_ <| ldG T P₁₆ T.ld.glob <| cD hdld <| aC <| ldL P₁₆ rfl <| args_nil ⟨P₁₆.fr.keep _ _ hold, wpAny_call <|
    codeAny_mono (due_spec (by exact P₁₆.bl (env := envA L ad.la cd) hA rfl) (T.keeps P₁₆.base_in) (R₁.less (by omega)) F hF fa (ht.keeps P₁₆.base_in)) fun r s₁₇ h₁₇ => ?_⟩
  obtain ⟨v17, rfl, st₁₇, up₁₇, S₁₇, h17⟩ := h₁₇
  have P₁₇ := P₁₆.back st₁₇ up₁₇
  have hS₁₇ : Same s s₁₇ := ((hS₁₄.trans S₁₅).trans S₁₆).trans S₁₇
  have fin : ∀ {s' : Shared}, s'.heap = s₁₇.heap → Same s₁₇ s' → Ret base s (fun v _ => v = .bool true) (.ok (.ret (.bool true))) s' := fun {s'} hh S' => by
    refine ⟨_, rfl, ?_, ?_, hS₁₇.trans S', rfl⟩
    · rw [hh]; exact P₁₇.fr.keep
    · rw [hh]; exact P₁₇.up
  unfold strippedV at h16
  have e16 : stripOf (⟨F.due.toArray⟩ : Str).cps.toList F.k = F.ends := strip_due hG
  rw [e16] at h16
  unfold optV at h17
  cases hE : F.ends with
  | none =>
    rw [hE] at h16 h17
    subst h16 h17
    exact EqNone.eq_none_none (fin rfl (Same.refl _))
  | some ys =>
    rw [hE] at h16 h17
    obtain ⟨ta', rfl⟩ := h16
    obtain ⟨tb', rfl⟩ := h17
    refine eq_str ?_
    rw [beq_self_eq_true]
    exact fin rfl (Same.refl _)
end
end Mine
end

-- part U1
section
open PySem PySem.W PySem.Calls PyProof.Rows PySem.SeqAt
set_option Elab.async false
set_option maxRecDepth 100000
namespace Mine
namespace Fz
theorem plainAttrs : PlainAttrs "frozenset" :=
  ⟨⟨"object.__getattribute__", by rw [typeLookup_type, builtinLookup_eq_fast]; kernel_rfl, by decide +kernel⟩, by rw [typeLookup_type, builtinLookup_eq_fast]; kernel_rfl⟩
theorem slot_isdisjoint : Slot "frozenset" "isdisjoint" "frozenset.isdisjoint" :=
  .of (owner := "frozenset") (n := "isdisjoint") (by rw [typeLookup_type, builtinLookup_eq_fast]; kernel_rfl) (by decide +kernel) (by decide +kernel) (by decide +kernel)
    (by first | exact .inl (by decide +kernel) | exact .inr (by decide +kernel)) (by rw [isSubtype_type]; kernel_rfl)
theorem type_isdisjoint : typeOf (.builtin "frozenset.isdisjoint") = pure (.type "method_descriptor") := by kernel_rfl
theorem args_isdisjoint (a b : Value) : argsOk "frozenset.isdisjoint" ⟨[a, b], []⟩ := by unfold argsOk; kernel_rfl
theorem entry_isdisjoint : entryFor table "frozenset.isdisjoint" = some Builtin.«frozenset.isdisjoint» := entryFor_of_tree (by kernel_rfl)
theorem entry_isdisjoint_loop : entryFor table "frozenset.isdisjoint.loop" = some Builtin.«frozenset.isdisjoint.loop» := entryFor_of_tree (by kernel_rfl)
theorem plain_isdisjoint_loop : plainId "frozenset.isdisjoint.loop" = true := by decide +kernel
end Fz

section
variable {w : World} {A : Around} {E : Value → Shared → Prop} {s : Shared} {a : Addr} {ks : List Str}

theorem fz_dloop {I : Addr} {fp wr : List Addr} {n : Nat} {P : Nat → Value → Prop} {St : Nat → Heap → Prop} {R : Result → Shared → Prop} (W : Walks pw w A.in1 I fp wr n P St) (hSf : a ∉ fp)
    (hval : ∀ i v, P i v → ∃ k t, v = .str k t ∧ k ∉ ks)
    (hst : St 0 s.heap) (hS : FzAt w s.heap a ks)
    (hR : ∀ s', Same s s' → (∀ b o, b ∉ wr → s.heap.get? b = some o → s'.heap.get? b = some o) → R (.ok (.ret (.bool true))) s') :
    codeAny (model pw w) A (.builtin "frozenset.isdisjoint.loop" ⟨[.ref a, .ref I], []⟩) R s := by
  have key : ∀ (k i : Nat) (s₁ : Shared), n - i = k → i ≤ n → St i s₁.heap → FzAt w s₁.heap a ks → Same s s₁ → (∀ b o, b ∉ wr → s.heap.get? b = some o → s₁.heap.get? b = some o) →
      codeAny (model pw w) A (.builtin "frozenset.isdisjoint.loop" ⟨[.ref a, .ref I], []⟩) R s₁ := by
    intro k
    induction k with
    | zero =>
      intro i s₁ hk hi hst hS S₁ hk₁
      have hin : i = n := by omega
      subst hin
      refine codeAny_builtin Fz.entry_isdisjoint_loop ?_
      rw [Around.under_plainId Fz.plain_isdisjoint_loop]
      unfold Builtin.«frozenset.isdisjoint.loop»
      refine wpAny_bind (W.done s₁ _ _ hst fun h' tk hk' => ?_)
      exact wpAny_pure (hR _ S₁ (fun b o h2 e => hk' b o h2 (hk₁ b o h2 e)))
    | succ k ih =>
      intro i s₁ hk hi hst hS S₁ hk₁
      refine codeAny_builtin Fz.entry_isdisjoint_loop ?_
      rw [Around.under_plainId Fz.plain_isdisjoint_loop]
      unfold Builtin.«frozenset.isdisjoint.loop»
      refine wpAny_bind (W.item i s₁ _ _ (by omega) hst fun v h' tk hv hst' hk' => ?_)
      obtain ⟨x, t, rfl, hx⟩ := hval i v hv
      have hS' : FzAt w h' a ks := by
        obtain ⟨es, ep, tb, ho, r⟩ := hS
        exact ⟨es, ep, tb, hk' _ _ (fun q => hSf (W.sub _ q)) ho, r⟩
      refine wpAny_bind (wpAny_holding (fz_contains (s := { s₁ with heap := h', toks := tk }) hS' ?_))
      rw [decide_eq_false hx, if_neg (by decide)]
      exact wpAny_pure ⟨plainId_quiet Fz.plain_isdisjoint_loop _, ih (i + 1) _ (by omega) (by omega) hst' hS' S₁ fun b o h2 e => hk' b o h2 (hk₁ b o h2 e)⟩
  exact key n 0 s rfl (Nat.zero_le _) hst hS (Same.refl _) fun _ _ _ e => e

theorem fz_disjoint {x : Str} {t : Tok} {Q : Value → Shared → Prop} (hh : A.handled = none) (hS : FzAt w s.heap a ks) (hx : ∀ c ∈ x.cps.toList, (⟨#[c]⟩ : Str) ∉ ks)
    (h : ∀ s', Same s s' → s.heap.StaysIn s'.heap → Q (.bool true) s') :
    wpAny (model pw w) A (call (.builtin "frozenset.isdisjoint") [.ref a, .str x t]) Q E s := by
  have ha : a ≠ s.heap.objs.size := by obtain ⟨_, _, _, e, _⟩ := hS; exact Nat.ne_of_lt (Heap.lt_size e)
  refine wpAny_call (codeAny_call_builtin Fz.slot_isdisjoint.plain Fz.entry_isdisjoint (Fz.slot_isdisjoint.check _ _ _ _ _ _ _ _ hS.typeIs (Fz.args_isdisjoint _ _) ?_))
  unfold Builtin.«frozenset.isdisjoint» Builtin.Frozenset.oneOther
  simp only [List.isEmpty_nil, bind_assoc]
  unfold Builtin.Frozenset.addrOf
  refine wpAny_bind (wpAny_pure ?_)
  refine wpAny_bind (wpAny_pure ?_)
  dsimp only
  rw [if_neg (by simp)]
  refine wpAny_bind ?_
  show wpAny _ _ (typeOf (.str x t)) _ _ _
  refine wpAny_typeOf (typeIs_str _ _ _) ?_
  rw [if_neg (by decide)]
  refine wpAny_bind (wpAny_pyIter_str fun o St W hst => ?_)
  refine wpAny_pure ⟨plainId_quiet Fz.plain_isdisjoint_loop _, ?_⟩
  refine fz_dloop (W _ hh) (by simpa using ha) (fun i v hv => ?_) hst (hS.keeps fun _ _ e => Heap.get?_push_of_some _ e) fun s' S' k' => ?_
  · obtain ⟨c, u, hc, rfl⟩ := hv
    exact ⟨_, u, rfl, hx c (by rw [← Array.getElem?_toList] at hc; exact List.mem_of_getElem? hc)⟩
  · exact h s' S' fun b o e => k' b o (by simpa using Nat.ne_of_lt (Heap.lt_size e)) (Heap.get?_push_of_some _ e)

theorem gives_index_from (x y : Str) (i : Int) (t u v : Tok) (k : Nat) (rest : List Nat) (h : Builtin.Str.occurrences x y (PySem.fromIndex x.length i) x.length 1 = k :: rest) :
    Gives (Builtin.«str.index» ⟨[.str x t, .str y u, .int i v], []⟩) (.int k) := by
  show Gives (match Builtin.Str.occurrences x y (PySem.fromIndex x.length i) (min x.length x.length) 1 with | i :: _ => retInt i | [] => (do rule "str.index.not-found"; raiseError "ValueError" "substring not found")) _
  rw [Nat.min_self, h]
  exact .of_eq rfl

theorem idx_str {x : Str} {c i m : Nat} {t u v : Tok} {Q : Value → Shared → Prop} (hi : i ≤ m) (hm : x.cps.toList[m]? = some c) (hn : ∀ j, i ≤ j → j < m → x.cps.toList[j]? ≠ some c)
    (h : ∀ tk k, Q (.int m tk) { s with toks := k }) : wpAny (model pw w) A (call (.builtin "str.index") [.str x t, .str ⟨#[c]⟩ u, .int i v]) Q E s := by
  have hf : PySem.fromIndex x.length (i : Int) = i := by unfold PySem.fromIndex; rw [if_neg (by omega)]; omega
  rcases StrLaws.occ_head_from x ⟨#[c]⟩ (PySem.fromIndex x.length i) 1 (Nat.le_refl 1) with ⟨h0, hnn⟩ | ⟨k, r, h0, hlo, hk, hnn⟩
  · exact absurd ((StrLaws.subAt_one x c m).mpr hm) (hnn m (by rw [hf]; exact hi))
  · have hkm : k = m := by
      rw [hf] at hlo hnn
      have hck := (StrLaws.subAt_one x c k).mp hk
      rcases Nat.lt_trichotomy k m with q | q | q
      · exact absurd hck (hn k hlo q)
      · exact q
      · exact absurd ((StrLaws.subAt_one x c m).mpr hm) (hnn m hi q)
    subst hkm
    exact call_gives PySem.F.slot_str_index (typeIs_str _ _ _) PySem.F.entry_str_index (PySem.F.args_str_index_3 _ _ _) (gives_index_from x _ i t u v k r h0) (h _ _)
end
end Mine
end

-- part U2
section
open PySem PySem.W PySem.Calls PyProof.Rows PySem.SeqAt
set_option Elab.async false
set_option maxRecDepth 100000
namespace Mine

def badC (c : Nat) : Prop := (c < 32 ∧ c ≠ 9) ∨ c = 127
/-- the sets of the top -/
structure Gs (w : World) (mg : Str → Option Value) (h : Heap) : Prop where
  ws : ∃ a, mg "TOML_WS_AND_NEWLINE" = some (.ref a) ∧ MemP w h (.ref a) (fun c => decide (c ∈ [32, 9, 10]))
  bad : ∃ a ks, mg "ILLEGAL_COMMENT_CHARS" = some (.ref a) ∧ mg "ILLEGAL_LITERAL_STR_CHARS" = some (.ref a) ∧ FzAt w h a ks ∧ ∀ k ∈ ks, ∃ c, k = ⟨#[c]⟩ ∧ badC c
  cm : ∃ t, mg "CHAR_MAX" = some (.int 127 t)
theorem Gs.keeps {w : World} {mg : Str → Option Value} {h h' : Heap} (G : Gs w mg h) (k : h.StaysIn h') : Gs w mg h' :=
  let ⟨a, b, c⟩ := G.ws; let ⟨d, e, f, g, i, j⟩ := G.bad
  ⟨⟨a, b, c.keeps k⟩, ⟨d, e, f, g, i.keeps k, j⟩, G.cm⟩

theorem isStarB {e : Expr} {rest : List Expr} {env : Env} (he : noStar (e :: rest) = true) : starEach (e :: rest) env = (false, eval e env) :: starEach rest env := by
  simp only [noStar, Bool.and_eq_true, Bool.not_eq_true'] at he
  exact star_cons he.1

section
variable {w : World} {M : Model} {A : Around} {E : Value → Shared → Prop} {s : Shared} {h₀ base : Heap} {outer : List Env} {mg mb : Str → Option Value} {ad : Ads} {L f a e : Addr} {cd : Value} {env : Env}

theorem cM {pos : Pos} {id : String} {first : List Value} {e : Expr} {rest : List Expr} {Q : Value → Shared → Prop}
    (h : wpAny M A (spliced (backTo pos (starEach (e :: rest) env))) (fun vs s₁ => wpAny M A (call (.builtin id) (first ++ vs)) Q E s₁) E s)
    (he : noStar (e :: rest) = true := by rfl) : wpAny M A (callWith pos (.builtin id) first (backTo pos (starEach (e :: rest) env)) []) Q E s := by
  simp only [noStar, Bool.and_eq_true, Bool.not_eq_true'] at he
  exact callWith_method1 h (star_cons he.1) (star_any he.2)

theorem sliceNN {value slice : Expr} {x : Str} {t u v : Tok} {i m : Nat} {Q : Value → Shared → Prop} (hx : x.length ≤ 100000) (hi : i ≤ m) (hm : m ≤ x.length)
    (h : ∀ h' t' c, s.heap.StaysIn h' → Q (.str ⟨((x.cps.toList.take m).drop i).toArray⟩ t') { s with heap := h', toks := c })
    (hs : subscripted slice false (.str x t) (.ref s.heap.objs.size) = operate [.ref s.heap.objs.size, .str x t] (getItem (.str x t) (.ref s.heap.objs.size)) := by with_unfolding_all rfl)
    (ht : ∀ r, letTemporaryGo value (.str x t) r = pure () := by intro _; with_unfolding_all rfl) :
    wpAny (model pw w) A (subscriptTail value slice (.str x t) (.ref s.heap.objs.size)) Q E { s with heap := s.heap.push { cls := .type "slice", data := .fields #[.int i u, .int m v, .none] } } := by
  refine tail_of_ItemOn (SBH.sliceItem_ss (P := fun h' => s.heap.StaysIn h') (s := s) keptStays (fun _ _ e => e) (fun h' t' k' st => ?_) (by rw [sizeLine_eq]; omega)) hs ht
  rw [slice_eq]
  have e1 : hiOf (some (m : Int)) x.length = m := by simp only [hiOf, clipN]; omega
  have e2 : loOf (some (i : Int)) x.length = i := by simp only [loOf, clipN]; omega
  rw [e1, e2]
  exact h h' t' k' st

abbrev envU (L f : Addr) (cd : Value) : Env := envOf "skip_until" (fnScope (stAt 13)) L f cd

theorem until_spec (B : Bl A base outer s.heap) (T : Gl mg mb ad base) (R : Room A 2) (x : Str) (t : Tok) (i : Nat) (u : Tok) (c : Nat) (tc : Tok) (es : Addr) (ks : List Str) (b : Bool) (m : Nat) (hx : x.length ≤ 4000)
    (hi : i ≤ m) (hm : x.cps.toList[m]? = some c) (hn : ∀ j, i ≤ j → j < m → x.cps.toList[j]? ≠ some c) (hF : FzAt w base es ks) (hk : ∀ k ∈ ks, ∃ c, k = ⟨#[c]⟩ ∧ badC c)
    (hok : ∀ j, i ≤ j → j < m → ∀ d, x.cps.toList[j]? = some d → ¬ badC d) :
    codeAny (model pw w) A (.call (.ref ad.su) ⟨[.str x t, .int i u, .str ⟨#[c]⟩ tc], [("error_on", .ref es), ("error_on_eof", .bool b)]⟩) (Ret base s (fun v _ => ∃ t', v = .int m t')) s := by
  have hn0 : x.cps.toList.length = x.length := by simp [Str.length]
  have hml : m < x.length := by have := (List.getElem?_eq_some_iff.mp hm).1; omega
  refine callF (binds := [("src", .str x t), ("pos", .int i u), ("expect", .str ⟨#[c]⟩ tc), ("error_on", .ref es), ("error_on_eof", .bool b)]) B T.lim T.su (by have := R.depth; omega) (fun _ _ _ => rfl) (by rfl) fun s₁ L cd S₁ P₁ => ?_
  have R₁ := R.deeper (envU L ad.su cd)
  refine wpAny_execs_cons <| wpAny_Try_except <| wpAny_execs_cons <| wpAny_Assign_Name <| MethodCall_ <| ldL P₁ rfl <| GM.index <| cM <| aC <| ldL P₁ rfl <| aC <| ldL P₁ rfl <| args_nil <|
    idx_str hi hm hn fun tk k => stL (s := { s₁ with toks := k }) P₁ fun s₂ S₂ _ P₂ => wpAny_execs_nil <| wpAny_execs_nil ?_
  refine wpAny_execs_cons <| wpAny_If <| isTrue_not <| isTrue_plain <| MethodCall_ <| ldL P₂ rfl <| getMethod_builtin (hF.keeps P₂.fr.keep).typeIs Fz.plainAttrs Fz.slot_isdisjoint Fz.type_isdisjoint (fun a ea => ?_) <| cM <| aC <|
    Subscript_ <| ldL P₂ rfl <| wpAny_Slice <| evalPart_some_step <| ldL P₂ rfl <| evalPart_some_step <| ldL P₂ rfl <| evalPart_none_step <| sliceNN (s := { s₂ with toks := _ }) (by omega) hi (by omega) fun h₃ t3 c3 k₃ => ?_
  · cases ea
    obtain ⟨_, _, _, e, _⟩ := hF.keeps P₂.fr.keep
    exact ⟨_, e, rfl⟩
  have P₃ : Pt s.heap base outer L h₃ _ := P₂.grow k₃
  refine args_nil <| fz_disjoint R₁.handled (hF.keeps P₃.fr.keep) (fun d hd hmem => ?_) fun s₄ S₄ k₄ => wpAny_truthy_bool ?_
  · obtain ⟨c', e, hb⟩ := hk _ hmem
    have : d = c' := by injection e with e; injection e with e; injection e
    subst this
    obtain ⟨j, hj⟩ := List.mem_iff_getElem?.mp hd
    rw [List.getElem?_drop, List.getElem?_take] at hj
    split at hj
    · rename_i hlt
      exact hok (i + j) (Nat.le_add_right _ _) hlt d hj hb
    · cases hj
  rw [if_neg (by decide)]
  refine wpAny_execs_nil ?_
  have P₄ := P₃.grow k₄
  refine wpAny_execs_cons <| wpAny_Return_some <| ldL P₄ rfl ?_
  exact ⟨_, rfl, P₄.fr.keep, P₄.up, (S₁.trans S₂).trans S₄, _, rfl⟩
end
end Mine
end

-- part U3
section
open PySem PySem.W PySem.Calls PyProof.Rows PySem.SeqAt
set_option Elab.async false
set_option maxRecDepth 100000
namespace Mine

section
variable {w : World} {M : Model} {A : Around} {E : Value → Shared → Prop} {s : Shared} {h₀ base : Heap} {outer : List Env} {mg mb : Str → Option Value} {ad : Ads} {L f a e : Addr} {cd : Value} {env : Env}

theorem CallK_ {x : Str} {p pos : Pos} {args : List Expr} {kws : List Keyword} {Q : Value → Shared → Prop}
    (h : wpAny M A (eval (.Name x p) env) (fun f s₁ => wpAny M A (callWith pos f [] (backTo pos (starEach args env)) (backToKw pos (keywordEach kws env))) Q E s₁) E s) :
    wpAny M A (eval (.Call (.Name x p) args kws pos) env) Q E s := wpAny_bind h
theorem cDk {pos p1 p2 : Pos} {f : Addr} {o : Obj} {fd : FuncData} {e v1 v2 : Expr} {n1 n2 : Str} {rest : List Expr} {Q : Value → Shared → Prop} (hdat : o.data = .func fd)
    (h : wpAny M A (spliced (backTo pos (starEach (e :: rest) env))) (fun vs s₁ => wpAny M A (eval v1 env) (fun k1 s₂ => wpAny M A (eval v2 env) (fun k2 s₃ =>
      s₃.heap.get? f = some o ∧ wpAny M A (call (.ref f) vs [(n1, k1), (n2, k2)]) Q E s₃) E s₂) E s₁) E s)
    (he : isStar e = false := by rfl) :
    wpAny M A (callWith pos (.ref f) [] (backTo pos (starEach (e :: rest) env)) (backToKw pos (keywordEach [⟨some n1, v1, p1⟩, ⟨some n2, v2, p2⟩] env))) Q E s := by
  refine callWith_def_kw hdat (evalArgs_kw2 rfl (wpAny_mono h (fun vs s₁ h₁ => ?_) fun _ _ z => z) (star_cons he))
  exact kwAll_cons (wpAny_mono h₁ (fun k1 s₂ h₂ => kwAll_cons (wpAny_mono h₂ (fun k2 s₃ h₃ => kwAll_nil h₃) fun _ _ z => z)) fun _ _ z => z)

abbrev envK (L f : Addr) (cd : Value) : Env := envOf "skip_comment" (fnScope (stAt 14)) L f cd

/-- what skip_comment leads to -/
def CmAt (xs : List Nat) (i m : Nat) : Prop :=
  (∃ c, xs[i]? = some c ∧ c ≠ 35 ∧ m = i) ∨
  (xs[i]? = some 35 ∧ i + 1 ≤ m ∧ xs[m]? = some 10 ∧ ∀ j, i + 1 ≤ j → j < m → ∀ d, xs[j]? = some d → d ≠ 10 ∧ ¬ badC d)

theorem item_get {x : Str} {i c : Nat} (h : x.cps.toList[i]? = some c) : Txt.item x (i : Int) = ⟨#[c]⟩ := by
  have hn : x.cps.toList.length = x.length := by simp [Str.length]
  rw [item_nat x i (by have := (List.getElem?_eq_some_iff.mp h).1; omega), h]; rfl
theorem beq_one (c d : Nat) : ((⟨#[c]⟩ : Str) == ⟨#[d]⟩) = (c == d) := by
  by_cases h : c = d
  · subst h; simp
  · have h1 : (⟨#[c]⟩ : Str) ≠ ⟨#[d]⟩ := fun e => h (by injection e with e; injection e with e; injection e)
    rw [beq_false_of_ne h1, beq_false_of_ne h]

theorem comment_spec (B : Bl A base outer s.heap) (T : Gl mg mb ad base) (G : Gs w mg base) (R : Room A 3) (x : Str) (t : Tok) (i : Nat) (u : Tok) (m : Nat) (hx : x.length ≤ 4000) (hm : CmAt x.cps.toList i m) :
    codeAny (model pw w) A (.call (.ref ad.sk) ⟨[.str x t, .int i u], []⟩) (Ret base s (fun v _ => ∃ t', v = .int m t')) s := by
  have hn0 : x.cps.toList.length = x.length := by simp [Str.length]
  obtain ⟨c, hc⟩ : ∃ c, x.cps.toList[i]? = some c := by
    rcases hm with ⟨c, h, _⟩ | ⟨h, _⟩
    · exact ⟨c, h⟩
    · exact ⟨_, h⟩
  have hil : i < x.length := by have := (List.getElem?_eq_some_iff.mp hc).1; omega
  refine callF (binds := [("src", .str x t), ("pos", .int i u)]) B T.lim T.sk (by have := R.depth; omega) (fun _ _ _ => rfl) (by rfl) fun s₁ L cd S₁ P₁ => ?_
  have R₁ := R.deeper (envK L ad.sk cd)
  refine wpAny_execs_cons <| wpAny_Try_except <| wpAny_execs_cons <| wpAny_Assign_Name <| Subscript_ <| ldL P₁ rfl <| ldL P₁ rfl <| item_str_or R₁.handled (fits_small (by omega) (by omega)) (fun hout h' tk e hx' => ?_) fun h1 h2 => ?_
  · omega
  rw [item_get hc]
  refine stL (s := { s₁ with toks := _ }) P₁ fun s₂ S₂ _ P₂ => wpAny_execs_nil <| wpAny_execs_nil ?_
  refine wpAny_execs_cons <| wpAny_If <| wpAny_isTrue_Compare1 <| ldL P₂ rfl <| wpAny_Constant_str <| eq_str <| wpAny_truthy_bool ?_
  rw [show Str.ofString "#" = ⟨#[35]⟩ by decide, beq_one]
  rcases hm with ⟨c', h, hne, rfl⟩ | ⟨h, him, hmm, hbt⟩
  · rw [hc] at h; cases h
    rw [if_neg (by simpa using hne)]
    refine wpAny_execs_nil <| wpAny_execs_cons <| wpAny_Return_some <| ldL (s := { s₂ with toks := _ }) P₂ rfl ?_
    exact ⟨_, rfl, P₂.fr.keep, P₂.up, S₁.trans S₂, _, rfl⟩
  · rw [hc] at h; cases h
    rw [if_pos (by decide)]
    obtain ⟨es, ks, hg1, _, hF, hks⟩ := G.bad
    obtain ⟨osu, _, _, _, hosu, hdsu, _⟩ := T.su.there
    refine wpAny_execs_cons <| wpAny_Return_some <| CallK_ <| ldG (s := { s₂ with toks := _ }) T P₂ T.su.glob <| cDk hdsu <| aC <| ldL (s := { s₂ with toks := _ }) P₂ rfl <| aC <| wpAny_BinOp <| ldL (s := { s₂ with toks := _ }) P₂ rfl <| wpAny_Constant_int <| add_int <| aC <| Constant_str <| args_nil <|
      ldG (s := { s₂ with toks := _ }) T P₂ hg1 <| Constant_bool ⟨P₂.fr.keep _ _ hosu, wpAny_call ?_⟩
    rw [show ((i : Int) + 1) = ((i + 1 : Nat) : Int) by omega, show Str.ofString "\n" = ⟨#[10]⟩ by decide]
    refine codeAny_mono (until_spec (by exact P₂.bl (env := envK L ad.sk cd) B.stack rfl) (T.keeps P₂.base_in) (R₁.less (by omega)) x t (i + 1) _ 10 _ es ks false m hx him hmm (fun j h1 h2 e => (hbt j h1 h2 _ e).1 rfl) (hF.keeps P₂.base_in) hks (fun j h1 h2 d e => (hbt j h1 h2 _ e).2)) fun r s₃ h₃ => ?_
    obtain ⟨v, rfl, st, up, S₃, tr, rfl⟩ := h₃
    have P₃ := P₂.back st up
    exact ⟨_, rfl, P₃.fr.keep, P₃.up, (S₁.trans S₂).trans S₃, _, rfl⟩
end
end Mine
end

-- part U4
section
open PySem PySem.W PySem.Calls PyProof.Rows PySem.SeqAt
set_option Elab.async false
set_option maxRecDepth 100000
namespace Mine

def pre9 : List Nat := [35, 32, 105, 116, 39, 115, 10, 9, 39]

section
variable {w : World} {M : Model} {A : Around} {E : Value → Shared → Prop} {s : Shared} {h₀ base : Heap} {outer : List Env} {mg mb : Str → Option Value} {ad : Ads} {L f a e : Addr} {cd : Value} {env : Env}
abbrev envW (L f : Addr) (cd : Value) : Env := envOf "skip_comments_and_array_ws" (fnScope (stAt 15)) L f cd

theorem ws_spec (B : Bl A base outer s.heap) (T : Gl mg mb ad base) (G : Gs w mg base) (R : Room A 4) (x : Str) (t : Tok) (u : Tok) (hx : x.length ≤ 4000) (hp : ∀ j, j < 9 → x.cps.toList[j]? = pre9[j]?) :
    codeAny (model pw w) A (.call (.ref ad.sw) ⟨[.str x t, .int 0 u], []⟩) (Ret base s (fun v _ => ∃ t', v = .int 8 t')) s := by
  have hn0 : x.cps.toList.length = x.length := by simp [Str.length]
  have h9 : 9 ≤ x.length := by have := (List.getElem?_eq_some_iff.mp (hp 8 (by omega))).1; omega
  have hk : ∀ i j m, (i, j, m) ∈ [(0, 0, 6), (6, 8, 8), (8, 8, 8)] → i + skipN (fun c => decide (c ∈ [32, 9, 10])) x.cps.toList i = j ∧ CmAt x.cps.toList j m := by
    intro i j m hm
    have g : ∀ j, j < 9 → x.cps.toList[j]? = pre9[j]? := hp
    simp only [List.mem_cons, List.not_mem_nil, or_false, Prod.mk.injEq] at hm
    rcases hm with ⟨rfl, rfl, rfl⟩ | ⟨rfl, rfl, rfl⟩ | ⟨rfl, rfl, rfl⟩
    · refine ⟨?_, .inr ⟨g 0 (by omega), by omega, g 6 (by omega), fun j h1 h2 d hd => ?_⟩⟩
      · have := skipN_stop (p := fun c => decide (c ∈ [32, 9, 10])) (i := 0) (j := 0) (c := 35) (Nat.zero_le _) (g 0 (by omega)) (by decide)
        omega
      · rw [g j (by omega)] at hd
        have : j = 1 ∨ j = 2 ∨ j = 3 ∨ j = 4 ∨ j = 5 := by omega
        unfold badC
        rcases this with rfl | rfl | rfl | rfl | rfl <;> (simp [pre9] at hd; omega)
    · refine ⟨?_, .inl ⟨39, g 8 (by omega), by decide, rfl⟩⟩
      have a1 := skipN_go (p := fun c => decide (c ∈ [32, 9, 10])) (i := 6) (j := 0) (c := 10) (Nat.zero_le _) (g 6 (by omega)) (by decide)
      have a2 := skipN_go (p := fun c => decide (c ∈ [32, 9, 10])) (i := 6) (j := 1) (c := 9) a1 (g 7 (by omega)) (by decide)
      have a3 := skipN_stop (p := fun c => decide (c ∈ [32, 9, 10])) (i := 6) (j := 2) (c := 39) a2 (g 8 (by omega)) (by decide)
      omega
    · refine ⟨?_, .inl ⟨39, g 8 (by omega), by decide, rfl⟩⟩
      have := skipN_stop (p := fun c => decide (c ∈ [32, 9, 10])) (i := 8) (j := 0) (c := 39) (Nat.zero_le _) (g 8 (by omega)) (by decide)
      omega
  refine callF (binds := [("src", .str x t), ("pos", .int 0 u)]) B T.lim T.sw (by have := R.depth; omega) (fun _ _ _ => rfl) (by rfl) fun s₁ L cd S₁ P₁ => ?_
  have R₁ := R.deeper (envW L ad.sw cd)
  obtain ⟨osc, _, _, _, hosc, hdsc, _⟩ := T.sc.there
  obtain ⟨osk, _, _, _, hosk, hdsk, _⟩ := T.sk.there
  obtain ⟨wa, hwa, hmem⟩ := G.ws
  refine wpAny_execs_cons <| wpAny_While ?_
  refine codeAny_whileLoop (I := fun n s' => ∃ (i : Nat) (t1 : Tok) (l : List (Str × Value)), Pt s.heap base outer L s'.heap l ∧ Loc l "pos" = some (.int i t1) ∧ Loc l "src" = some (.str x t) ∧ Same s s' ∧ (n, i) ∈ [(2, 0), (1, 6), (0, 8)])
    (fun n s₃ hI => ?_) 2 ⟨0, u, _, P₁, rfl, rfl, S₁, by decide⟩
  obtain ⟨i, t1, l, P₃, hpos, hsrc, S₃, hin⟩ := hI
  obtain ⟨j, m, hjm, hnx⟩ : ∃ j m, (i, j, m) ∈ [(0, 0, 6), (6, 8, 8), (8, 8, 8)] ∧ ((m = i ∧ m = 8) ∨ (m ≠ i ∧ 1 ≤ n ∧ (n - 1, m) ∈ [(2, 0), (1, 6), (0, 8)])) := by
    simp only [List.mem_cons, List.not_mem_nil, or_false, Prod.mk.injEq] at hin
    rcases hin with ⟨rfl, rfl⟩ | ⟨rfl, rfl⟩ | ⟨rfl, rfl⟩
    · exact ⟨0, 6, by decide, .inr ⟨by decide, by decide, by decide⟩⟩
    · exact ⟨8, 8, by decide, .inr ⟨by decide, by decide, by decide⟩⟩
    · exact ⟨8, 8, by decide, .inl ⟨rfl, rfl⟩⟩
  obtain ⟨hsk, hcm⟩ := hk i j m hjm
  have hi8 : i ≤ x.length := by
    simp only [List.mem_cons, List.not_mem_nil, or_false, Prod.mk.injEq] at hjm
    omega
  refine isTrue_plain <| Constant_bool <| wpAny_truthy_bool ?_
  rw [if_pos rfl]
  refine wpAny_execs_cons <| wpAny_Assign_Name <| ldL P₃ hpos <| stL P₃ fun s₄ S₄ _ P₄ => ?_
  have q1 : ∀ (y : Str) v, y ≠ "pos_before_skip" → Loc l y = some v → Loc (putv "pos_before_skip" (.int i t1) l) y = some v := fun y v hne hv => by rw [Loc_putv]; simp only [if_neg hne]; exact hv
  have hpos4 := q1 "pos" _ (by decide) hpos
  have hsrc4 := q1 "src" _ (by decide) hsrc
  have hpb4 : Loc (putv "pos_before_skip" (.int i t1) l) "pos_before_skip" = some (.int i t1) := by rw [Loc_putv]; simp only [if_pos]
  refine wpAny_execs_cons <| wpAny_Assign_Name <| Call_ <| ldG T P₄ T.sc.glob <| cD hdsc <| aC <| ldL P₄ hsrc4 <| aC <| ldL P₄ hpos4 <| aC <| ldG T P₄ hwa <| args_nil ⟨P₄.fr.keep _ _ hosc, wpAny_call <|
    codeAny_mono (skip_chars_spec (by exact P₄.bl (env := envW L ad.sw cd) B.stack rfl) (T.keeps P₄.base_in) (R₁.less (by omega)) x t i t1 _ _ hx hi8 (hmem.keeps P₄.base_in)) fun r s₅ h₅ => ?_⟩
  obtain ⟨v5, rfl, st₅, up₅, S₅, tr5, rfl⟩ := h₅
  have P₅ := P₄.back st₅ up₅
  rw [hsk]
  refine stL P₅ fun s₆ S₆ _ P₆ => ?_
  have q2 : ∀ (y : Str) v, y ≠ "pos" → Loc (putv "pos_before_skip" (.int i t1) l) y = some v → Loc (putv "pos" (.int j tr5) (putv "pos_before_skip" (.int i t1) l)) y = some v := fun y v hne hv => by rw [Loc_putv]; simp only [if_neg hne]; exact hv
  have hpos6 : Loc (putv "pos" (.int j tr5) (putv "pos_before_skip" (.int i t1) l)) "pos" = some (.int j tr5) := by rw [Loc_putv]; simp only [if_pos]
  have hsrc6 := q2 "src" _ (by decide) hsrc4
  have hpb6 := q2 "pos_before_skip" _ (by decide) hpb4
  refine wpAny_execs_cons <| wpAny_Assign_Name <| Call_ <| ldG T P₆ T.sk.glob <| cD hdsk <| aC <| ldL P₆ hsrc6 <| aC <| ldL P₆ hpos6 <| args_nil ⟨P₆.fr.keep _ _ hosk, wpAny_call <|
    codeAny_mono (comment_spec (by exact P₆.bl (env := envW L ad.sw cd) B.stack rfl) (T.keeps P₆.base_in) (G.keeps P₆.base_in) (R₁.less (by omega)) x t j tr5 m hx hcm) fun r s₇ h₇ => ?_⟩
  obtain ⟨v7, rfl, st₇, up₇, S₇, tr7, rfl⟩ := h₇
  have P₇ := P₆.back st₇ up₇
  refine stL P₇ fun s₈ S₈ _ P₈ => ?_
  have q3 : ∀ (y : Str) v, y ≠ "pos" → Loc (putv "pos" (.int j tr5) (putv "pos_before_skip" (.int i t1) l)) y = some v → Loc (putv "pos" (.int m tr7) (putv "pos" (.int j tr5) (putv "pos_before_skip" (.int i t1) l))) y = some v := fun y v hne hv => by rw [Loc_putv]; simp only [if_neg hne]; exact hv
  have hpos8 : Loc (putv "pos" (.int m tr7) (putv "pos" (.int j tr5) (putv "pos_before_skip" (.int i t1) l))) "pos" = some (.int m tr7) := by rw [Loc_putv]; simp only [if_pos]
  have hsrc8 := q3 "src" _ (by decide) hsrc6
  have hpb8 := q3 "pos_before_skip" _ (by decide) hpb6
  have hS : Same s s₈ := ((((S₃.trans S₄).trans S₅).trans S₆).trans S₇).trans S₈
  refine wpAny_execs_cons <| wpAny_If <| wpAny_isTrue_Compare1 <| ldL P₈ hpos8 <| ldL P₈ hpb8 <| eq_int <| wpAny_truthy_bool ?_
  rcases hnx with ⟨e, rfl⟩ | ⟨hne, hn1, hin'⟩
  · subst e
    rw [if_pos (by simp)]
    refine wpAny_execs_cons <| wpAny_Return_some <| ldL P₈ hpos8 ?_
    exact ⟨_, rfl, P₈.fr.keep, P₈.up, hS, _, rfl⟩
  · rw [if_neg (by simp; omega)]
    refine wpAny_execs_nil <| wpAny_execs_nil ?_
    exact ⟨n - 1, by omega, m, tr7, _, P₈, hpos8, hsrc8, hS, hin'⟩
end
end Mine
end

-- part U5
section
open PySem PySem.W PySem.Calls PyProof.Rows PySem.SeqAt
set_option Elab.async false
set_option maxRecDepth 100000
namespace Mine

section
variable {w : World} {M : Model} {A : Around} {E : Value → Shared → Prop} {s : Shared} {h₀ base : Heap} {outer : List Env} {mg mb : Str → Option Value} {ad : Ads} {L f a e : Addr} {cd : Value} {env : Env}
abbrev envL (L f : Addr) (cd : Value) : Env := envOf "parse_literal_str" (fnScope (stAt 16)) L f cd

theorem lit_spec (B : Bl A base outer s.heap) (T : Gl mg mb ad base) (G : Gs w mg base) (R : Room A 3) (x : Str) (t : Tok) (u : Tok) (i m : Nat) (hx : x.length ≤ 4000)
    (hi : i + 1 ≤ m) (hm : x.cps.toList[m]? = some 39) (hbt : ∀ j, i + 1 ≤ j → j < m → ∀ d, x.cps.toList[j]? = some d → d ≠ 39 ∧ ¬ badC d) :
    codeAny (model pw w) A (.call (.ref ad.pl) ⟨[.str x t, .int i u], []⟩)
      (Ret base s (fun v h => ∃ a t1 t2, v = .ref a ∧ s.heap.objs.size ≤ a ∧ h.get? a = some { cls := .type "tuple", data := .seq [.int ((m + 1 : Nat) : Int) t1, .str ⟨((x.cps.toList.take m).drop (i + 1)).toArray⟩ t2].toArray })) s := by
  have hn0 : x.cps.toList.length = x.length := by simp [Str.length]
  have hml : m < x.length := by have := (List.getElem?_eq_some_iff.mp hm).1; omega
  refine callF (binds := [("src", .str x t), ("pos", .int i u)]) B T.lim T.pl (by have := R.depth; omega) (fun _ _ _ => rfl) (by rfl) fun s₁ L cd S₁ P₁ => ?_
  have R₁ := R.deeper (envL L ad.pl cd)
  obtain ⟨osu, _, _, _, hosu, hdsu, _⟩ := T.su.there
  obtain ⟨es, ks, _, hg1, hF, hks⟩ := G.bad
  refine wpAny_execs_cons <| wpAny_AugAssign_Name <| ldnL P₁ rfl <| wpAny_Constant_int <| iadd_int ?_
  rw [show ((i : Int) + 1) = ((i + 1 : Nat) : Int) by omega]
  refine stL (s := { s₁ with toks := _ }) P₁ fun s₂ S₂ _ P₂ => ?_
  refine wpAny_execs_cons <| wpAny_Assign_Name <| ldL P₂ rfl <| stL P₂ fun s₃ S₃ _ P₃ => ?_
  refine wpAny_execs_cons <| wpAny_Assign_Name <| CallK_ <| ldG T P₃ T.su.glob <| cDk hdsu <| aC <| ldL P₃ rfl <| aC <| ldL P₃ rfl <| aC <| Constant_str <| args_nil <| ldG (s := { s₃ with toks := _ }) T P₃ hg1 <| Constant_bool ⟨P₃.fr.keep _ _ hosu, wpAny_call ?_⟩
  rw [show Str.ofString "'" = ⟨#[39]⟩ by decide]
  refine codeAny_mono (until_spec (by exact P₃.bl (env := envL L ad.pl cd) B.stack rfl) (T.keeps P₃.base_in) (R₁.less (by omega)) x t (i + 1) _ 39 _ es ks true m hx hi hm (fun j h1 h2 e => (hbt j h1 h2 _ e).1 rfl) (hF.keeps P₃.base_in) hks (fun j h1 h2 d e => (hbt j h1 h2 _ e).2)) fun r s₄ h₄ => ?_
  obtain ⟨v, rfl, st, up, S₄, tr, rfl⟩ := h₄
  have P₄ := P₃.back st up
  refine stL P₄ fun s₅ S₅ _ P₅ => ?_
  refine wpAny_execs_cons <| wpAny_Return_some <| Tuple_ <| aC <| wpAny_BinOp <| ldL P₅ rfl <| wpAny_Constant_int <| add_int <| aC <|
    Subscript_ <| ldL (s := { s₅ with toks := _ }) P₅ rfl <| wpAny_Slice <| evalPart_some_step <| ldL (s := { s₅ with toks := _ }) P₅ rfl <| evalPart_some_step <| ldL (s := { s₅ with toks := _ }) P₅ rfl <| evalPart_none_step <| sliceNN (s := { s₅ with toks := _ }) (by omega) hi (by omega) fun h₆ t6 c6 k₆ => args_nil ?_
  have P₆ : Pt s.heap base outer L h₆ _ := P₅.grow k₆
  refine newT (by simp) fun s₇ tt S₇ k₇ htt e₇ => ?_
  have P₇ := P₆.grow k₇
  rw [show ((m : Int) + 1) = ((m + 1 : Nat) : Int) by omega] at e₇
  refine ⟨_, rfl, P₇.fr.keep, P₇.up, ((((S₁.trans S₂).trans S₃).trans S₄).trans S₅).trans S₇, tt, _, _, rfl, ?_, e₇⟩
  exact Nat.le_trans P₆.new (Nat.le_trans (Nat.le_of_lt P₆.lt_size) htt)
end
end Mine
end

-- part G1
section
open PySem PySem.W PySem.Calls PyProof.Rows PySem.SeqAt
set_option Elab.async false
set_option maxRecDepth 100000
namespace Mine

section
variable {M : Model} {A : Around} {R : GenEnd} {Y : Protocol} {n : Nat} {s₀ : Shared} {c : Code} {fs : List Frame} {s : Shared} {env : Env}
  {K : Flow → Sem Fin} {H : Value → Sem Fin} {gd : Bool → Bool} {lv : List Value → List Value}

theorem sg_If {test : Expr} {body orelse : List Stmt} {pos : Pos}
    (h : wpAny M (A.over c fs) (isTrue test env (eval test env)) (fun b s' => Seg M A R Y n s₀ c ((execs (if b then body else orelse) env).wrap K H gd lv) fs s') (fun x s' => Seg M A R Y n s₀ c (H x) fs s') s) :
    Seg M A R Y n s₀ c ((exec (.If test body orelse pos) env).wrap K H gd lv) fs s := by
  rw [exec_If]
  refine seg_bind_wrap (wpAny_standAt ?_)
  refine seg_bind_wrap (wpAny_mono h (fun b s' h' => ?_) fun _ _ z => z)
  cases b <;> exact h'

theorem sg_stmt {st : Stmt} (h : wpAny M (A.over c fs) (exec st env) (fun f s' => Seg M A R Y n s₀ c (K f) fs s') (fun x s' => Seg M A R Y n s₀ c (H x) fs s') s) :
    Seg M A R Y n s₀ c ((exec st env).wrap K H gd lv) fs s := seg_wrap h

/-- what waits behind a loop of its own -/
def loopBack (env : Env) (K : Flow → Sem Fin) (H : Value → Sem Fin) (gd : Bool → Bool) (lv : List Value → List Value) : Result → Sem Fin := fun r =>
  ((match r with | .ok f => (.pure f : Sem Flow) | .error e => .raise e).onRaise fun (x : Value) => do
        if (← field x 1) == Value.none then unsupported "frame.own-activation:exception-without-traceback"
        setFlight x env.frame).wrap K H gd lv

theorem sg_For {target iter : Expr} {body orelse : List Stmt} {pos : Pos}
    (h : wpAny M (A.over c fs) (eval iter env) (fun x s₁ => wpAny M (A.over c fs) (pyIter x) (fun it s₂ =>
      ∀ p, Seg M A R Y n s₀ (.forLoop target it body orelse env) (M.den (.forLoop target it body orelse env)) (.ret (loopBack env K H gd lv) none (gd false) (lv []) c p [] :: fs) s₂)
        (fun x s' => Seg M A R Y n s₀ c (H x) fs s') s₁) (fun x s' => Seg M A R Y n s₀ c (H x) fs s') s)
    (hs : ∀ x, foldedSetIterable iter env x = pure x := by intro _; rfl) :
    Seg M A R Y n s₀ c ((exec (.For target iter body orelse pos) env).wrap K H gd lv) fs s := by
  rw [exec_For]
  refine seg_bind_wrap (wpAny_standAt ?_)
  refine seg_bind_wrap (wpAny_mono h (fun x s₁ h₁ => ?_) fun _ _ z => z)
  refine seg_bind_wrap (wpAny_of_eq (hs x) ?_)
  refine seg_bind_wrap (wpAny_standAt ?_)
  refine seg_bind_wrap (wpAny_holding (wpAny_mono h₁ (fun it s₂ h₂ => ?_) fun _ _ z => z))
  exact seg_call h₂

theorem sg_While {test : Expr} {body orelse : List Stmt} {pos : Pos}
    (h : ∀ p, Seg M A R Y n s₀ (.whileLoop test body orelse env) (M.den (.whileLoop test body orelse env)) (.ret (loopBack env K H gd lv) none (gd false) (lv []) c p [] :: fs) s) :
    Seg M A R Y n s₀ c ((exec (.While test body orelse pos) env).wrap K H gd lv) fs s := seg_While h
end

section
variable {prog : Program} {w : World} {A : Around} {R : GenEnd} {Y : Protocol} {n : Nat} {s₀ : Shared} {fs : List Frame} {s : Shared} {env : Env}

/-- how a raise leaves a turn -/
abbrev turnH (env : Env) : Value → Sem Fin := fun e => (do noteFrame e env; theTreesLotGoes e : Sem Unit).bind (fun _ => .raise e)
abbrev turnK (again : Code) : Flow → Sem Fin := fun f => match f with
  | .next | .cont => .pure (.again again)
  | .brk => .pure (.done .next)
  | .ret v => .pure (.done (.ret v))

theorem sg_forLoop {target : Expr} {it : Value} {body orelse : List Stmt}
    (h : wpAny (model prog w) (A.over (.forLoop target it body orelse env) fs) (pyNext it) (fun r s₁ => match r with
      | none => Seg (model prog w) A R Y n s₀ (.block orelse env) ((model prog w).den (.block orelse env)) fs s₁
      | some v => wpAny (model prog w) (A.over (.forLoop target it body orelse env) fs) (assign target env v) (fun _ s₂ =>
          Seg (model prog w) A R Y n s₀ (.forLoop target it body orelse env) ((execs body env).wrap (turnK (.forLoop target it body orelse env)) (turnH env) id id) fs s₂)
          (fun x s' => Seg (model prog w) A R Y n s₀ (.forLoop target it body orelse env) (turnH env x) fs s') s₁)
      (fun x s' => Seg (model prog w) A R Y n s₀ (.forLoop target it body orelse env) (turnH env x) fs s') s)
    (ht : ∀ v, letOwnedTupleGo target it v = pure () := by intro _; rfl) :
    Seg (model prog w) A R Y n s₀ (.forLoop target it body orelse env) ((model prog w).den (.forLoop target it body orelse env)) fs s := by
  show Seg _ A R Y n s₀ _ ((forTurn target it body orelse env).onRaise (fun x => do noteFrame x env; theTreesLotGoes x)) fs s
  unfold forTurn
  rw [Sem.onRaise_eq_wrap]
  refine seg_bind_wrap (wpAny_standAt ?_)
  refine seg_bind_wrap (wpAny_onRaise (wpAny_mono h (fun r s₁ h₁ => ?_) fun _ _ h' => wpAny_standAt h'))
  cases r with
  | none => exact seg_again rfl h₁
  | some v =>
    refine seg_bind_wrap (wpAny_of_eq (ht v) ?_)
    refine seg_bind_wrap (wpAny_mono h₁ (fun _ s₂ h₂ => ?_) fun _ _ z => z)
    rw [Sem.bind_eq_wrap', Sem.wrap_wrap]
    rw [Sem.wrap_congr (execs body env) _ _ (K' := turnK (.forLoop target it body orelse env)) (H' := turnH env) (fun f => by cases f <;> rfl) (fun e => by rfl)]
    exact h₂
end
end Mine
end

-- part G2
section
open PySem PySem.W PySem.Calls PyProof.Rows PySem.SeqAt
set_option Elab.async false
set_option maxRecDepth 100000
namespace Mine

def forB : Stmt → List Stmt | .For _ _ b _ _ => b | _ => []
def forT : Stmt → Expr | .For t _ _ _ _ => t | _ => .Constant .none 0 default
def ifB : Stmt → List Stmt | .If _ b _ _ => b | _ => []
def whB : Stmt → List Stmt | .While _ b _ _ => b | _ => []
def whT : Stmt → Expr | .While t _ _ _ => t | _ => .Constant .none 0 default
def nth (l : List Stmt) (j : Nat) : Stmt := (l[j]?).getD (.Pass default)
def gBody : List Stmt := forB (stIn 2 1)
def gWh : Stmt := nth (ifB (nth gBody 1)) 1

abbrev envG (L f : Addr) (cd : Value) : Env := envOf "_grouping_intervals" (fnScope (stAt 2)) L f cd

/-- what the generator leaves alone: all that stood when it was made, but its frame -/
def Since (Lg a : Addr) (s₀ s : Shared) : Prop := ∃ h tk, s = { s₀ with heap := h, toks := tk } ∧ ∀ b o, b ≤ a → b ≠ Lg → s₀.heap.get? b = some o → h.get? b = some o
theorem Since.refl (Lg a : Addr) (s : Shared) : Since Lg a s s := ⟨_, _, rfl, fun _ _ _ _ e => e⟩
theorem Since.step {Lg a : Addr} {s₀ s : Shared} {h : Heap} {tk : Tok} (x : Since Lg a s₀ s) (k : ∀ b o, b ≤ a → b ≠ Lg → s.heap.get? b = some o → h.get? b = some o) : Since Lg a s₀ { s with heap := h, toks := tk } := by
  obtain ⟨h₁, t₁, rfl, k₁⟩ := x
  exact ⟨h, tk, rfl, fun b o h1 h2 e => k b o h1 h2 (k₁ b o h1 h2 e)⟩

def gVal (ws : List Nat) (j : Nat) : Nat := ws.getD (min j (ws.length - 1)) 0

def gProto (base : Heap) (Lg a : Addr) (N : Nat) (inf : Bool) (ws : List Nat) : Protocol := fun k s₀ v s kap =>
  (∃ t, v = .int (gVal ws (N - 1 - k) : Nat) t) ∧ Since Lg a s₀ s ∧
  ((inf = true → 0 < k) → ∀ s'' : Shared, base.StaysIn s''.heap → (∀ b o, Lg ≤ b → s.heap.get? b = some o → s''.heap.get? b = some o) → kap (.send .none) s'')
def gEnd (Lg a : Addr) : GenEnd := fun n s₀ r s₁ => r = .ok (.ret .none) ∧ (n = 0 ∧ Since Lg a s₀ s₁)

section
variable {w : World} {A : Around} {s₀ s : Shared} {base : Heap} {Lg a f : Addr} {cd : Value} {N : Nat} {inf : Bool} {ws : List Nat} {fs : List Frame} {l : List (Str × Value)} {mg mb : Str → Option Value} {ad : Ads} {f₀ : Addr} {H₀ : Value → Sem Fin}

theorem stG {M : Model} {A : Around} {E : Value → Shared → Prop} {x : Str} {v : Value} {Q : Unit → Shared → Prop} (P : Fr base Lg s.heap (Loc l))
    (h : ∀ h' tk, Heap.SameBut Lg s.heap h' → Fr base Lg h' (Loc (putv x v l)) → Q () { s with heap := h', toks := tk })
    (hl : (envG Lg f cd).kindOf x = some .local := by rfl) :
    wpAny M A (storeName (envG Lg f cd) x v) Q E s :=
  wpAny_storeName_local hl P.ns (fun h' hn hs => h _ _ hs (P.set (by rw [Loc_putv]; exact hn) hs)) (by rfl)

theorem g_while (hfs : splitAtGen fs = none) (hfg : fs.any Frame.guarded = false) (wl : Nat) (t : Tok) (hl : Loc l "last_interval" = some (.int wl t)) :
    ∀ (n : Nat) (s₀ s : Shared), (∀ k, k ≤ n → gVal ws (N - 1 - k) = wl) → Fr base Lg s.heap (Loc l) → Since Lg a s₀ s →
      Seg (model pw w) A (gEnd Lg a) (gProto base Lg a N true ws) (n + 1) s₀ (.whileLoop (whT gWh) (whB gWh) [] (envG Lg f cd)) ((model pw w).den (.whileLoop (whT gWh) (whB gWh) [] (envG Lg f cd))) fs s := by
  intro n
  induction n with
  | zero =>
    intro s₀ s hv F S
    refine seg_whileLoop <| isTrue_plain <| Constant_bool <| wpAny_truthy_bool ?_
    rw [if_pos rfl]
    refine seg_execs_cons <| seg_Expr_Yield hfs rfl hfg <| ld F hl fun kap hk => ?_
    exact ⟨⟨t, by rw [hv 0 (Nat.le_refl _)]⟩, S, fun z => absurd (z rfl) (Nat.lt_irrefl _)⟩
  | succ n ih =>
    intro s₀ s hv F S
    refine seg_whileLoop <| isTrue_plain <| Constant_bool <| wpAny_truthy_bool ?_
    rw [if_pos rfl]
    refine seg_execs_cons <| seg_Expr_Yield hfs rfl hfg <| ld F hl fun kap hk => ?_
    refine ⟨⟨t, by rw [hv (n + 1) (Nat.le_refl _)]⟩, S, fun _ s'' hb hk' => hk _ _ ?_⟩
    show Seg _ _ _ _ _ _ _ _ _ _
    refine seg_execs_nil ?_
    refine seg_again rfl (ih s'' s'' (fun k hk => hv k (Nat.le_succ_of_le hk)) ⟨?_, hb, F.above⟩ (Since.refl _ _ _))
    exact F.ns.at' fun o e => hk' Lg o (Nat.le_refl _) e

/-- how the sizes end -/
def Ends (inf : Bool) (N : Nat) (ws : List Nat) (items : Array Value) : Prop :=
  (inf = false ∧ N = ws.length ∧ items[ws.length]? = none) ∨ (inf = false ∧ N = ws.length ∧ ∃ t, items[ws.length]? = some (.int 127 t)) ∨
  (inf = true ∧ ws.length < N ∧ 0 < ws.length ∧ ∃ t, items[ws.length]? = some (.int 0 t))

theorem gVal_at (ws : List Nat) (j : Nat) (h : j < ws.length) : gVal ws j = ws.getD j 0 := by
  unfold gVal; rw [Nat.min_eq_left (by omega)]
theorem gVal_last (ws : List Nat) (j : Nat) (h : ws.length ≤ j) : gVal ws j = ws.getD (ws.length - 1) 0 := by
  unfold gVal; rw [Nat.min_eq_right (by omega)]

theorem g_for (hh : A.handled = none) (T : Gl mg mb ad base) (G : Gs w mg base) (I la : Addr) (items : Array Value) (hla : base.IsList la items) (haI : a < I) (hLa : Lg < a)
    (hit : ∀ i, i < ws.length → ∃ t, items[i]? = some (.int (ws.getD i 0 : Nat) t)) (hne : ∀ i, i < ws.length → ws.getD i 0 ≠ 0 ∧ ws.getD i 0 ≠ 127) (hend : Ends inf N ws items) (p₀ : Pos)
    (K : Flow → Sem Fin) (hK : ∀ s₀ s f, f = .next ∨ f = .ret .none → Since Lg a s₀ s → Seg (model pw w) A (gEnd Lg a) (gProto base Lg a N inf ws) 0 s₀ (.func (fnBody (stAt 2)) (envG Lg f₀ cd)) (K f) [] s) :
    ∀ (k i : Nat) (s₀ s : Shared) (l : List (Str × Value)) (lv : Value), ws.length - i = k → i ≤ ws.length → Fr base Lg s.heap (Loc l) → Loc l "last_interval" = some lv → (0 < i → ∃ t, lv = .int (ws.getD (i - 1) 0 : Nat) t) →
      s.heap.IsListIter I la i → Since Lg a s₀ s →
      Seg (model pw w) A (gEnd Lg a) (gProto base Lg a N inf ws) (N - i) s₀ (.forLoop (forT (stIn 2 1)) (.ref I) gBody [] (envG Lg f₀ cd)) ((model pw w).den (.forLoop (forT (stIn 2 1)) (.ref I) gBody [] (envG Lg f₀ cd)))
        [.ret (loopBack (envG Lg f₀ cd) K H₀ id id) none false [] (.func (fnBody (stAt 2)) (envG Lg f₀ cd)) p₀ []] s := by
  have hLI : Lg ≠ I := Nat.ne_of_lt (Nat.lt_trans hLa haI)
  obtain ⟨tc, hcm⟩ := G.cm
  intro k
  induction k with
  | zero =>
    intro i s₀ s l lv hk hi F hl hlv hI S
    have hi' : i = ws.length := by omega
    subst hi'
    have hls : s.heap.IsList la items := let ⟨o, e, r⟩ := hla; ⟨o, F.keep _ _ e, r⟩
    rcases hend with ⟨rfl, rfl, hx⟩ | ⟨rfl, rfl, tx, hx⟩ | ⟨rfl, hN, h0, tx, hx⟩
    · rw [Nat.sub_self]
      refine sg_forLoop <| wpAny_pyNext_list_end hh hI hls hx fun h' he => ?_
      refine seg_leaf (.ok .next) (hK _ _ _ (.inl rfl) ?_)
      exact S.step fun b o hb _ e => he b o (Nat.ne_of_lt (Nat.lt_of_le_of_lt hb haI)) e
    · rw [Nat.sub_self]
      refine sg_forLoop <| wpAny_pyNext_list_item hI hls hx fun h' hI' hs' => ?_
      have F' : Fr base Lg h' (Loc l) := ⟨F.ns.sameBut hs' hLI, fun b o e => hs'.extBut b o (Nat.ne_of_lt (Nat.lt_trans (Nat.lt_of_lt_of_le (Heap.lt_size e) F.above) (Nat.lt_trans hLa haI))) (F.keep b o e), F.above⟩
      have S' : Since Lg a s₀ { s with heap := h' } := S.step fun b o hb _ e => hs'.extBut b o (Nat.ne_of_lt (Nat.lt_of_le_of_lt hb haI)) e
      refine assign_Name <| stG F' fun h₂ tk hs₂ F₂ => ?_
      have S₂ : Since Lg a s₀ { s with heap := h₂, toks := tk } := S'.step fun b o _ hb e => hs₂.extBut b o hb e
      have hiv : Loc (putv "interval" (.int 127 tx) l) "interval" = some (.int 127 tx) := by rw [Loc_putv]; simp only [if_pos]
      refine seg_execs_cons <| sg_If <| wpAny_isTrue_Compare1 <| ld F₂ hiv <| ld_global_at F₂ T.g hcm <| eq_int <| wpAny_truthy_bool ?_
      rw [show ((127 : Int) == 127) = true from rfl, if_pos rfl]
      refine seg_execs_cons <| sg_stmt <| wpAny_Return_none ?_
      exact seg_leaf (.ok (.ret .none)) (hK _ _ _ (.inr rfl) S₂)
    · refine sg_forLoop <| wpAny_pyNext_list_item hI hls hx fun h' hI' hs' => ?_
      have F' : Fr base Lg h' (Loc l) := ⟨F.ns.sameBut hs' hLI, fun b o e => hs'.extBut b o (Nat.ne_of_lt (Nat.lt_trans (Nat.lt_of_lt_of_le (Heap.lt_size e) F.above) (Nat.lt_trans hLa haI))) (F.keep b o e), F.above⟩
      have S' : Since Lg a s₀ { s with heap := h' } := S.step fun b o hb _ e => hs'.extBut b o (Nat.ne_of_lt (Nat.lt_of_le_of_lt hb haI)) e
      refine assign_Name <| stG F' fun h₂ tk hs₂ F₂ => ?_
      have S₂ : Since Lg a s₀ { s with heap := h₂, toks := tk } := S'.step fun b o _ hb e => hs₂.extBut b o hb e
      have hiv : Loc (putv "interval" (.int 0 tx) l) "interval" = some (.int 0 tx) := by rw [Loc_putv]; simp only [if_pos]
      obtain ⟨tl, rfl⟩ := hlv h0
      have hil : Loc (putv "interval" (.int 0 tx) l) "last_interval" = some (.int (ws.getD (ws.length - 1) 0 : Nat) tl) := by rw [Loc_putv]; simp only [if_neg (show (Str.ofString "last_interval") ≠ "interval" by decide)]; exact hl
      refine seg_execs_cons <| sg_If <| wpAny_isTrue_Compare1 <| ld F₂ hiv <| ld_global_at F₂ T.g hcm <| eq_int <| wpAny_truthy_bool ?_
      rw [show ((0 : Int) == 127) = false from rfl, if_neg (by decide)]
      refine seg_execs_nil <| seg_execs_cons <| sg_If <| wpAny_isTrue_Compare1 <| ld F₂ hiv <| wpAny_Constant_int <| eq_int <| wpAny_truthy_bool ?_
      rw [show ((0 : Int) == 0) = true from rfl, if_pos rfl]
      refine seg_execs_cons <| sg_If <| wpAny_isTrue_Compare1 <| ld F₂ hil <| Constant_none <| is_int_none <| wpAny_truthy_bool ?_
      rw [if_neg (by decide)]
      refine seg_execs_nil <| seg_execs_cons <| sg_While fun p => ?_
      obtain ⟨n, hn⟩ : ∃ n, N - ws.length = n + 1 := ⟨N - ws.length - 1, by omega⟩
      rw [hn]
      refine g_while rfl rfl _ tl hil n s₀ _ (fun k hk => ?_) F₂ ?_
      · rw [gVal_last _ _ (by omega)]
      · exact S₂.step fun b o _ _ e => e
  | succ k ih =>
    intro i s₀ s l lv hk hi F hl hlv hI S
    have hls : s.heap.IsList la items := let ⟨o, e, r⟩ := hla; ⟨o, F.keep _ _ e, r⟩
    have hiw : i < ws.length := by omega
    obtain ⟨tx, hx⟩ := hit i hiw
    obtain ⟨hn0, hn127⟩ := hne i hiw
    have hNi : i < N := by rcases hend with ⟨_, h, _⟩ | ⟨_, h, _⟩ | ⟨_, h, _⟩ <;> omega
    refine sg_forLoop <| wpAny_pyNext_list_item hI hls hx fun h' hI' hs' => ?_
    have F' : Fr base Lg h' (Loc l) := ⟨F.ns.sameBut hs' hLI, fun b o e => hs'.extBut b o (Nat.ne_of_lt (Nat.lt_trans (Nat.lt_of_lt_of_le (Heap.lt_size e) F.above) (Nat.lt_trans hLa haI))) (F.keep b o e), F.above⟩
    have S' : Since Lg a s₀ { s with heap := h' } := S.step fun b o hb _ e => hs'.extBut b o (Nat.ne_of_lt (Nat.lt_of_le_of_lt hb haI)) e
    refine assign_Name <| stG F' fun h₂ tk hs₂ F₂ => ?_
    have S₂ : Since Lg a s₀ { s with heap := h₂, toks := tk } := S'.step fun b o _ hb e => hs₂.extBut b o hb e
    have hI₂ : h₂.IsListIter I la (i + 1) := hI'.extBut hs₂.extBut (Ne.symm hLI)
    have hiv : Loc (putv "interval" (.int (ws.getD i 0 : Nat) tx) l) "interval" = some (.int (ws.getD i 0 : Nat) tx) := by rw [Loc_putv]; simp only [if_pos]
    refine seg_execs_cons <| sg_If <| wpAny_isTrue_Compare1 <| ld F₂ hiv <| ld_global_at F₂ T.g hcm <| eq_int <| wpAny_truthy_bool ?_
    rw [show (((ws.getD i 0 : Nat) : Int) == 127) = false by simp only [beq_eq_false_iff_ne]; omega, if_neg (by decide)]
    refine seg_execs_nil <| seg_execs_cons <| sg_If <| wpAny_isTrue_Compare1 <| ld F₂ hiv <| wpAny_Constant_int <| eq_int <| wpAny_truthy_bool ?_
    rw [show (((ws.getD i 0 : Nat) : Int) == 0) = false by simp only [beq_eq_false_iff_ne]; omega, if_neg (by decide)]
    obtain ⟨n, hn⟩ : ∃ n, N - i = n + 1 := ⟨N - i - 1, by omega⟩
    rw [hn]
    refine seg_execs_nil <| seg_execs_cons <| seg_Expr_Yield rfl rfl rfl <| ld (s := { s with heap := h₂, toks := _ }) F₂ hiv fun kap hk' => ?_
    refine ⟨⟨tx, by rw [gVal_at _ _ (by omega), show N - 1 - n = i by omega]⟩, S₂.step fun b o _ _ e => e, fun _ s'' hb hkeep => hk' _ _ ?_⟩
    show Seg _ _ _ _ _ _ _ _ _ _
    have F₃ : Fr base Lg s''.heap (Loc (putv "interval" (.int (ws.getD i 0 : Nat) tx) l)) := ⟨F₂.ns.at' fun o e => hkeep Lg o (Nat.le_refl _) e, hb, F₂.above⟩
    have hI₃ : s''.heap.IsListIter I la (i + 1) := let ⟨o, e, r⟩ := hI₂; ⟨o, hkeep I o (Nat.le_of_lt (Nat.lt_trans hLa haI)) e, r⟩
    refine seg_execs_cons <| sg_stmt <| wpAny_Assign_Name <| ld F₃ hiv <| stG F₃ fun h₄ tk₄ hs₄ F₄ => ?_
    refine seg_execs_nil <| seg_again rfl ?_
    have := ih (i + 1) s'' { s'' with heap := h₄, toks := tk₄ } _ _ (by omega) (by omega) F₄ (by rw [Loc_putv]; simp only [if_pos]; rfl) (fun _ => ⟨tx, rfl⟩) (hI₃.extBut hs₄.extBut (Ne.symm hLI)) ((Since.refl _ _ _).step fun b o _ hb e => hs₄.extBut b o hb e)
    rw [show N - (i + 1) = n by omega] at this
    exact this
end
end Mine
end

-- part G3
section
open PySem PySem.W PySem.Calls PyProof.Rows PySem.SeqAt
set_option Elab.async false
set_option maxRecDepth 100000
namespace Mine

theorem Since.heap {Lg a : Addr} {s₀ s : Shared} (x : Since Lg a s₀ s) : ∀ b o, b ≤ a → b ≠ Lg → s₀.heap.get? b = some o → s.heap.get? b = some o := by
  obtain ⟨h, t, rfl, k⟩ := x; exact k

section
variable {w : World} {A : Around} {E : Value → Shared → Prop} {s₀ s : Shared} {base : Heap} {Lg a f : Addr} {cd : Value} {N : Nat} {inf : Bool} {ws : List Nat} {mg mb : Str → Option Value} {ad : Ads} {g : Nat}

theorem g_func (hh : A.handled = none) (T : Gl mg mb ad base) (G : Gs w mg base) (la : Addr) (items : Array Value) (hla : base.IsList la items) (hLa : Lg < a) (ha : a < s.heap.objs.size)
    (hit : ∀ i, i < ws.length → ∃ t, items[i]? = some (.int (ws.getD i 0 : Nat) t)) (hne : ∀ i, i < ws.length → ws.getD i 0 ≠ 0 ∧ ws.getD i 0 ≠ 127) (hend : Ends inf N ws items)
    (F : Fr base Lg s.heap (Loc [("grouping", .ref la)])) (S : Since Lg a s₀ s) :
    Seg (model pw w) A (gEnd Lg a) (gProto base Lg a N inf ws) N s₀ (.func (fnBody (stAt 2)) (envG Lg f cd)) ((model pw w).den (.func (fnBody (stAt 2)) (envG Lg f cd))) [] s := by
  refine seg_func <| seg_execs_cons <| sg_stmt <| wpAny_Assign_Name <| Constant_none <| stG F fun h₁ tk₁ hs₁ F₁ => ?_
  have hl₁ : h₁.IsList la items := let ⟨o, e, r⟩ := hla; ⟨o, F₁.keep _ _ e, r⟩
  have hsz : h₁.objs.size = s.heap.objs.size := hs₁.1
  refine seg_execs_cons <| sg_For <| ld F₁ rfl <| wpAny_pyIter_list hl₁ fun p => ?_
  refine g_for hh T G h₁.objs.size la items hla (by rw [hsz]; exact ha) hLa hit hne hend p _ (fun s₀ s f hf S => ?_) ws.length 0 s₀ _ _ .none (by omega) (Nat.zero_le _) (F₁.push _) rfl (fun z => absurd z (Nat.lt_irrefl _)) ⟨_, Heap.get?_push_size _ rfl, rfl, rfl⟩ ?_
  · rcases hf with rfl | rfl
    · exact seg_end (.ok (.ret .none)) ⟨rfl, rfl, S⟩
    · exact seg_end (.ok (.ret .none)) ⟨rfl, rfl, S⟩
  · exact S.step fun b o _ hb e => Heap.get?_push_of_some _ (hs₁.extBut b o hb e)

/-- the next of a def's generator; its state stays bare -/
theorem next_gen {n : Nat} {gs : GenState} {P : Nat → Shared → Shared → Prop} {Y : Protocol} {Q : Option Value → Shared → Prop} (hh : A.handled = none)
    (hl : s.heap.NoLimit) (hroom : A.depth < recursionLimit) (hg : s.heap.IsGen a g) (hgs : s.gens[g]? = some gs)
    (hgo : gs.Goes (model pw w) A.in1 (fun n s₀ r s₁ => r = .ok (.ret .none) ∧ P n s₀ s₁) Y n (.send .none) (s.setGen g .running))
    (hY : ∀ v s₁ gs', gs'.bare = true → Y (n - 1) (s.setGen g .running) v s₁ (fun r' s'' => match n with
        | 0 => False
        | m + 1 => gs'.Goes (model pw w) A.in1 (fun n s₀ r s₁ => r = .ok (.ret .none) ∧ P n s₀ s₁) Y m r' s'') → Q (some v) (s₁.setGen g gs'))
    (hP : ∀ s₁, P n (s.setGen g .running) s₁ → ∀ h', (∀ b o, s₁.heap.get? b = some o → h'.get? b = some o) → Q none { s₁.setGen g .finished with heap := h' }) :
    wpAny (model pw w) A (pyNext (.ref a)) Q E s := by
  unfold pyNext
  refine wpAny_bind (wpAny_attempt (wpAny_callSpecial?_slot (name := Str.ofString "__next__") hg.typeIs slot_gen_next
    (wpAny_call_entry slot_gen_next hg.typeIs entry_gen_next ?_ (args_gen_next _))))
  show wpAny _ A.in1 (Builtin.Generator.genWake (.ref a) (.send .none)) _ _ s
  unfold Builtin.Generator.genWake
  refine wpAny_bind (wpAny_holding (wpAny_genNumber hg (wpAny_bind (wpAny_genState hgs ?_))))
  cases gs with
  | running => exact hgo.elim
  | finished => exact hgo.elim
  | _ =>
    refine wpAny_bind (wpAny_roomToWake hl hroom ?_)
    show wpAny _ A.in1 (.resume g (.send .none) [] _) _ _ s
    refine wpAny_resumeQ hgs hgo (fun x s₁ hx => ?_) (fun v s₁ gs' hb hv => ?_)
    · obtain ⟨rfl, hp⟩ := hx
      show wpAny _ A.in1 (newExc (.type "StopIteration") [] >>= _) _ _ _
      refine wpAny_bind ?_
      simp only [newExc, newTuple]
      refine wpAny_bind (wpAny_newObj_type ?_ (by size_fits))
      refine wpAny_bind (m := firstArgMember _ _) (wpAny_of_eq (a := Value.none) (by first | rfl | (simp only [firstArgMember]; rfl)) ?_)
      refine wpAny_newObj_type ?_ (by size_fits)
      simp only [raiseNew]
      refine wpAny_bind (wpAny_bind (wpAny_handled ?_))
      first | rw [show A.in1.handled = none from hh] | rw [hh]
      refine wpAny_throw ?_
      refine wpAny_bind (wpAny_isInstance (T := "StopIteration") (b := true) ⟨_, Heap.get?_push_size _ rfl, rfl⟩ isSubtype_stop ?_)
      exact wpAny_pure (hP s₁ hp _ fun b o hb => Heap.get?_push_of_some _ (Heap.get?_push_of_some _ hb))
    · exact wpAny_pure ⟨v, rfl, wpAny_pure (hY v s₁ gs' hb hv)⟩

/-- the generator has told j sizes -/
structure GenJ (w : World) (A : Around) (base : Heap) (Lg a : Addr) (G0 : Array GenState) (N : Nat) (inf : Bool) (ws : List Nat) (j : Nat) (s : Shared) : Prop where
  gen : s.heap.IsGen a G0.size
  st : ∃ gs, s.gens = G0.push gs ∧ gs.bare = true ∧ ((inf = true → j < N) → ∀ s'' : Shared, base.StaysIn s''.heap → (∀ b o, Lg ≤ b → s.heap.get? b = some o → s''.heap.get? b = some o) →
    gs.Goes (model pw w) A.in1 (gEnd Lg a) (gProto base Lg a N inf ws) (N - j) (.send .none) s'')

theorem GenJ.frame {G0 : Array GenState} {j : Nat} {s s' : Shared} (x : GenJ w A base Lg a G0 N inf ws j s) (hLa : Lg < a) (hg : s'.gens = s.gens) (hk : ∀ b o, Lg ≤ b → s.heap.get? b = some o → s'.heap.get? b = some o) :
    GenJ w A base Lg a G0 N inf ws j s' := by
  obtain ⟨⟨o, nm, qn, ho, r⟩, gs, e, hb, hgo⟩ := x
  exact ⟨⟨o, nm, qn, hk a o (Nat.le_of_lt hLa) ho, r⟩, gs, hg.trans e, hb, fun z s'' h1 h2 => hgo z s'' h1 fun b o hb e => h2 b o hb (hk b o hb e)⟩

theorem setGen_push {G0 : Array GenState} {s : Shared} {x y : GenState} (h : s.gens = G0.push x) : (s.setGen G0.size y).gens = G0.push y := by
  show s.gens.setIfInBounds G0.size y = _
  rw [h]
  apply Array.ext'
  simp [List.set_append]

theorem gen_item {G0 : Array GenState} {j : Nat} {Q : Option Value → Shared → Prop} (hh : A.handled = none) (hl : s.heap.NoLimit) (hroom : A.depth < recursionLimit) (hLa : Lg < a) (hst : base.StaysIn s.heap) (hbl : base.objs.size ≤ Lg)
    (x : GenJ w A base Lg a G0 N inf ws j s) (hj : j < N)
    (h : ∀ s' t, GenJ w A base Lg a G0 N inf ws (j + 1) s' → s'.os = s.os → (∀ b o, b ≤ a → b ≠ Lg → s.heap.get? b = some o → s'.heap.get? b = some o) → Q (some (.int (gVal ws j : Nat) t)) s') :
    wpAny (model pw w) A (pyNext (.ref a)) Q E s := by
  obtain ⟨hg, gs, e, hb, hgo⟩ := x
  have hgs : s.gens[G0.size]? = some gs := by rw [e]; simp
  refine next_gen (P := fun n s₀ s₁ => n = 0 ∧ Since Lg a s₀ s₁) hh hl hroom hg hgs (hgo (fun _ => hj) _ hst fun _ _ _ e => e) (fun v s₁ gs' hb' hv => ?_) (fun s₁ hp h' hk => ?_)
  · obtain ⟨⟨t, rfl⟩, S, hkap⟩ := hv
    rw [show N - 1 - (N - j - 1) = j by omega]
    obtain ⟨h₁, tk₁, rfl, hk₁⟩ := S
    refine h _ t ⟨?_, gs', ?_, hb', fun z s'' h1 h2 => ?_⟩ rfl hk₁
    · obtain ⟨o, nm, qn, ho, r⟩ := hg
      exact ⟨o, nm, qn, hk₁ a o (Nat.le_refl _) (Nat.ne_of_gt hLa) ho, r⟩
    · exact setGen_push (x := .running) (setGen_push e)
    · have := hkap (fun q => by have := z q; omega) s'' h1 h2
      revert this
      obtain ⟨m, hm⟩ : ∃ m, N - j = m + 1 := ⟨N - j - 1, by omega⟩
      rw [hm, show N - (j + 1) = m by omega]
      exact id
  · exact absurd hp.1 (by omega)

theorem gen_done {G0 : Array GenState} {Q : Option Value → Shared → Prop} (hh : A.handled = none) (hl : s.heap.NoLimit) (hroom : A.depth < recursionLimit) (hLa : Lg < a) (hst : base.StaysIn s.heap) (hbl : base.objs.size ≤ Lg)
    (x : GenJ w A base Lg a G0 N false ws N s)
    (h : ∀ s', s'.gens = G0.push .finished → s'.os = s.os → (∀ b o, b ≤ a → b ≠ Lg → s.heap.get? b = some o → s'.heap.get? b = some o) → Q none s') :
    wpAny (model pw w) A (pyNext (.ref a)) Q E s := by
  obtain ⟨hg, gs, e, hb, hgo⟩ := x
  have hgs : s.gens[G0.size]? = some gs := by rw [e]; simp
  refine next_gen (P := fun n s₀ s₁ => n = 0 ∧ Since Lg a s₀ s₁) hh hl hroom hg hgs (hgo (fun z => by cases z) _ hst fun _ _ _ e => e) (fun v s₁ gs' hb' hv => ?_) (fun s₁ hp h' hk => ?_)
  · obtain ⟨_, S, hkap⟩ := hv
    have := hkap (fun z => by cases z) s₁ (fun b o e => S.heap b o (Nat.le_of_lt (Nat.lt_trans (Nat.lt_of_lt_of_le (Heap.lt_size e) hbl) hLa)) (Nat.ne_of_lt (Nat.lt_of_lt_of_le (Heap.lt_size e) hbl)) (hst b o e)) fun _ _ _ e => e
    revert this
    rw [Nat.sub_self]
    exact fun z => z.elim
  · obtain ⟨_, h₁, tk₁, rfl, hk₁⟩ := hp
    exact h _ (setGen_push (x := .running) (setGen_push e)) rfl fun b o h1 h2 e => hk b o (hk₁ b o h1 h2 e)
end
end Mine
end

-- part G4
section
open PySem PySem.W PySem.Calls PyProof.Rows PySem.SeqAt
set_option Elab.async false
set_option maxRecDepth 100000
namespace Mine

section
variable {w : World} {A A' : Around} {E : Value → Shared → Prop} {s₀ s : Shared} {base : Heap} {N : Nat} {inf : Bool} {ws : List Nat} {mg mb : Str → Option Value} {ad : Ads}

theorem gen_call {R : Result → Shared → Prop} (hst : base.StaysIn s.heap) (hsz : base.objs.size ≤ s.heap.objs.size) (T : Gl mg mb ad base) (G : Gs w mg base) (hroom : A.depth < recursionLimit) (hh : A'.handled = none)
    (la : Addr) (items : Array Value) (hla : base.IsList la items)
    (hit : ∀ i, i < ws.length → ∃ t, items[i]? = some (.int (ws.getD i 0 : Nat) t)) (hne : ∀ i, i < ws.length → ws.getD i 0 ≠ 0 ∧ ws.getD i 0 ≠ 127) (hend : Ends inf N ws items)
    (h : ∀ s' a, GenJ w A' base s.heap.objs.size a s.gens N inf ws 0 s' → s.heap.objs.size < a → s'.os = s.os → s.heap.StaysIn s'.heap → R (.ok (.ret (.ref a))) s') :
    codeAny (model pw w) A (.call (.ref ad.gi) ⟨[.ref la], []⟩) R s := by
  obtain ⟨o, pm, cd, doc, ho, hdat, hcd⟩ := T.gi.there
  refine codeAny_call_generator hroom (hst _ _ ho) hdat (by rfl) (by rfl) rfl (hcd.keeps hst) ?_
  rw [show bindArgs (docDef "_grouping_intervals" (fnPar (stAt 2)) (fnBody (stAt 2)) (fnScope (stAt 2)) pm cd doc) ⟨[.ref la], []⟩ = pure [(Str.ofString "grouping", Value.ref la)] from rfl]
  have hcell : ∀ x ∈ (fnScope (stAt 2)).names, x.2 ≠ .cell := by decide
  refine wpAny_pure (wpAny_newFunctionEnv hcell (fun x hx => ?_) (fun h₁ hns hsb => ⟨(T.lim.keeps hst).fresh _ hsb, ?_⟩) rfl)
  · simp at hx; subst hx; rfl
  have hs1 : h₁.objs.size = s.heap.objs.size + 1 := by rw [hsb.1, Heap.size_push]
  have k₁ : ∀ b o, s.heap.get? b = some o → h₁.get? b = some o := fun b o e => hsb.extBut b o (Nat.ne_of_lt (Heap.lt_size e)) (Heap.get?_push_of_some _ e)
  have hlt : s.heap.objs.size < h₁.objs.size := by rw [hs1]; exact Nat.lt_succ_self _
  refine h _ _ ⟨⟨_, _, _, Heap.get?_push_size _ rfl, rfl, rfl, rfl⟩, .fresh (.func (fnBody (stAt 2)) (envG s.heap.objs.size ad.gi cd)), rfl, rfl, fun _ s'' hb hk => ⟨rfl, ?_⟩⟩ hlt rfl fun b o e => Heap.get?_push_of_some _ (k₁ b o e)
  refine g_func hh T G la items hla hlt ?_ hit hne hend ⟨?_, hb, hsz⟩ (Since.refl _ _ _)
  · exact Heap.lt_size (hk _ _ (Nat.le_of_lt hlt) (Heap.get?_push_size _ rfl))
  · have : h₁.Ns s.heap.objs.size (Loc [("grouping", .ref la)]) := hns
    exact (this.push _).at' fun o e => hk _ o (Nat.le_refl _) e
end
end Mine
end

-- part G5
section
open PySem PySem.W PySem.Calls PyProof.Rows PySem.SeqAt
set_option Elab.async false
set_option maxRecDepth 100000
namespace Mine

/-- the first j items of an array, each as P says -/
def AllV (P : Nat → Value → Prop) (tv : Array Value) (j : Nat) : Prop := tv.size = j ∧ ∀ i, i < j → ∃ v, tv[i]? = some v ∧ P i v
theorem AllV.push {P : Nat → Value → Prop} {tv : Array Value} {j : Nat} {v : Value} (h : AllV P tv j) (hv : P j v) : AllV P (tv.push v) (j + 1) := by
  refine ⟨by rw [Array.size_push, h.1], fun i hi => ?_⟩
  rcases Nat.lt_or_ge i j with q | q
  · obtain ⟨u, e, hu⟩ := h.2 i q
    refine ⟨u, ?_, hu⟩
    rw [Array.getElem?_push, if_neg (by rw [h.1]; omega)]; exact e
  · have : i = j := by omega
    subst this
    refine ⟨v, ?_, hv⟩
    rw [Array.getElem?_push, if_pos h.1.symm]
theorem AllV.nil (P : Nat → Value → Prop) : AllV P #[] 0 := ⟨rfl, fun _ h => absurd h (Nat.not_lt_zero _)⟩

section
variable {w : World} {M : Model} {A : Around} {E : Value → Shared → Prop} {s : Shared} {h₀ base h h' : Heap} {outer : List Env} {mg mb : Str → Option Value} {ad : Ads} {L f a e : Addr} {cd : Value} {env : Env} {l : List (Str × Value)}

theorem ff_on (off : ∀ b ∈ frs outer, ∀ o, h.get? b = some o → h'.get? b = some o) (ff : h.FunFrames base outer) : h'.FunFrames base outer := by
  induction outer with
  | nil => trivial
  | cons env rest ih =>
    obtain ⟨x, ⟨L₁, o, b, c, d, e⟩, r⟩ := ff
    refine ⟨x, ⟨L₁, o, b, c, off L₁ (List.mem_filterMap.mpr ⟨env, .head _, b⟩) o d, e⟩, ih (fun q hq => off q ?_) r⟩
    obtain ⟨x, hx, hq⟩ := List.mem_filterMap.mp hq
    exact List.mem_filterMap.mpr ⟨x, .tail _ hx, hq⟩
theorem Pt.below (P : Pt h₀ base outer L h l) {X : Addr} (hX : L < X) (k : ∀ b o, b < X → h.get? b = some o → h'.get? b = some o) : Pt h₀ base outer L h' l := by
  refine ⟨⟨P.fr.ns.at' fun o e => k L o hX e, fun b o e => k b o (Nat.lt_trans (Nat.lt_of_lt_of_le (Heap.lt_size e) P.fr.above) hX) (P.fr.keep b o e), P.fr.above⟩, ff_on (fun b hb o e => k b o (Nat.lt_trans (P.lt b hb) hX) e) P.ff, P.lt, fun b o e hnf => ?_, P.new⟩
  obtain ⟨sl, q⟩ := P.up b o e hnf
  exact ⟨sl, k b _ (Nat.lt_trans (Nat.lt_of_lt_of_le (Heap.lt_size e) P.new) hX) q⟩

theorem Loc_eq (x : Str) (v : Value) (l : List (Str × Value)) : Loc (putv x v l) x = some v := by rw [Loc_putv]; simp only [if_pos]
theorem Loc_ne {x y : Str} {v u : Value} {l : List (Str × Value)} (h : Loc l y = some u) (hne : y ≠ x := by decide) : Loc (putv x v l) y = some u := by rw [Loc_putv]; simp only [if_neg hne]; exact h

theorem sliceFrom {value slice : Expr} {x : Str} {t u : Tok} {m : Nat} {Q : Value → Shared → Prop} (hx : x.length ≤ 100000) (h1 : 1 ≤ m) (hm : m ≤ x.length)
    (h : ∀ h' t' c, s.heap.StaysIn h' → Q (.str ⟨(x.cps.toList.drop (x.length - m)).toArray⟩ t') { s with heap := h', toks := c })
    (hs : subscripted slice false (.str x t) (.ref s.heap.objs.size) = operate [.ref s.heap.objs.size, .str x t] (getItem (.str x t) (.ref s.heap.objs.size)) := by with_unfolding_all rfl)
    (ht : ∀ r, letTemporaryGo value (.str x t) r = pure () := by intro _; with_unfolding_all rfl) :
    wpAny (model pw w) A (subscriptTail value slice (.str x t) (.ref s.heap.objs.size)) Q E { s with heap := s.heap.push { cls := .type "slice", data := .fields #[.int (-(m : Int)) u, .none, .none] } } := by
  refine tail_of_ItemOn (SBH.sliceItem_sn (P := fun h' => s.heap.StaysIn h') (s := s) keptStays (fun _ _ e => e) (fun h' t' k' st => ?_) (by rw [sizeLine_eq]; omega)) hs ht
  rw [slice_eq]
  have hn : x.cps.toList.length = x.length := by simp [Str.length]
  have e1 : hiOf none x.length = x.length := rfl
  have e2 : loOf (some (-(m : Int))) x.length = x.length - m := by simp only [loOf, clipN]; omega
  rw [e1, e2, List.take_of_length_le (by omega)]
  exact h h' t' k' st
theorem sliceTo {value slice : Expr} {x : Str} {t u : Tok} {m : Nat} {Q : Value → Shared → Prop} (hx : x.length ≤ 100000) (h1 : 1 ≤ m) (hm : m ≤ x.length)
    (h : ∀ h' t' c, s.heap.StaysIn h' → Q (.str ⟨(x.cps.toList.take (x.length - m)).toArray⟩ t') { s with heap := h', toks := c })
    (hs : subscripted slice false (.str x t) (.ref s.heap.objs.size) = operate [.ref s.heap.objs.size, .str x t] (getItem (.str x t) (.ref s.heap.objs.size)) := by with_unfolding_all rfl)
    (ht : ∀ r, letTemporaryGo value (.str x t) r = pure () := by intro _; with_unfolding_all rfl) :
    wpAny (model pw w) A (subscriptTail value slice (.str x t) (.ref s.heap.objs.size)) Q E { s with heap := s.heap.push { cls := .type "slice", data := .fields #[.none, .int (-(m : Int)) u, .none] } } := by
  refine tail_of_ItemOn (SBH.sliceItem_ns (P := fun h' => s.heap.StaysIn h') (s := s) keptStays (fun _ _ e => e) (fun h' t' k' st => ?_) (by rw [sizeLine_eq]; omega)) hs ht
  rw [slice_eq]
  have e1 : hiOf (some (-(m : Int))) x.length = x.length - m := by simp only [hiOf, clipN]; omega
  have e2 : loOf none x.length = 0 := rfl
  rw [e1, e2, List.drop_zero]
  exact h h' t' k' st

theorem addL {l b : Addr} {vs ws : Array Value} {n m : Nat} {Q : Value → Shared → Prop} (hl : s.heap.get? l = some { cls := .type "list", data := .seq vs n }) (hb : s.heap.get? b = some { cls := .type "list", data := .seq ws m }) (hsz : vs.size + ws.size ≤ 100000)
    (h : ∀ s' r, Same s s' → s.heap.StaysIn s'.heap → s.heap.objs.size ≤ r → s'.heap.get? r = some { cls := .type "list", data := .seq (vs ++ ws) } → Q (.ref r) s') :
    wpAny (model pw w) A (binaryOp .Add (.ref l) (.ref b)) Q E s :=
  concat_meets ⟨_, hl, rfl⟩ ⟨_, hb, rfl⟩ noFill_list_add seq_list_add PySem.F.slot_list_add PySem.F.entry_list_add (PySem.F.args_list_add_2 _ _) (list_addW l b vs ws n m _ _ _ _ (by rw [sizeLine_eq]; omega))
    ⟨hl, hb, h _ _ ⟨rfl, rfl⟩ (fun _ _ e => Heap.get?_push_of_some _ e) (Nat.le_refl _) (Heap.get?_push_size _ rfl)⟩
end
end Mine
end

-- part G6
section
open PySem PySem.W PySem.Calls PyProof.Rows PySem.SeqAt
set_option Elab.async false
set_option maxRecDepth 100000
namespace Mine

def leftOf (rest : List Nat) (ds : List (List Nat)) (j : Nat) : List Nat := rest ++ (ds.drop j).reverse.flatten
theorem leftOf_step (rest : List Nat) (ds : List (List Nat)) (j : Nat) (h : j < ds.length) : leftOf rest ds j = leftOf rest ds (j + 1) ++ ds.getD j [] := by
  unfold leftOf
  rw [List.drop_eq_getElem_cons h, List.reverse_cons, List.flatten_append, List.append_assoc]
  congr 2
  simp [h]
theorem leftOf_end (rest : List Nat) (ds : List (List Nat)) : leftOf rest ds ds.length = rest := by
  unfold leftOf; simp

/-- a def comes back, one generator more -/
def RetG (base : Heap) (s : Shared) (P : Value → Heap → Prop) (r : Result) (s' : Shared) : Prop :=
  ∃ v, r = .ok (.ret v) ∧ base.StaysIn s'.heap ∧ s.heap.UpToSlots s'.heap ∧ s'.os = s.os ∧ (∃ gs, s'.gens = s.gens.push gs ∧ gs.bare = true) ∧ P v s'.heap

def IntV (ws : List Nat) (i : Nat) (v : Value) : Prop := ∃ t, v = .int (gVal ws i : Nat) t
def StrV (ds : List (List Nat)) (i : Nat) (v : Value) : Prop := ∃ t, v = .str ⟨(ds.getD i []).toArray⟩ t

section
variable {w : World} {M : Model} {A : Around} {E : Value → Shared → Prop} {s : Shared} {h₀ base h h' : Heap} {outer : List Env} {mg mb : Str → Option Value} {ad : Ads} {L f a e : Addr} {cd : Value} {env : Env} {l : List (Str × Value)}

abbrev envT (L f : Addr) (cd : Value) : Env := envOf "_law_cut" (fnScope (stAt 20)) L f cd

theorem cut_spec (B : Bl A base outer s.heap) (T : Gl mg mb ad base) (G : Gs w mg base) (R : Room A 3) (x : Str) (t : Tok) (la : Addr) (items : Array Value) (ws : List Nat) (inf : Bool) (N : Nat) (ds : List (List Nat)) (rest : List Nat)
    (hx : x.length ≤ 4000) (hla : base.IsList la items) (hit : ∀ i, i < ws.length → ∃ t, items[i]? = some (.int (ws.getD i 0 : Nat) t)) (hne : ∀ i, i < ws.length → ws.getD i 0 ≠ 0 ∧ ws.getD i 0 ≠ 127) (hend : Ends inf N ws items)
    (hxs : x.cps.toList = leftOf rest ds 0) (hn : ds.length ≤ 40) (hlen : ∀ j, j < ds.length → (ds.getD j []).length = gVal ws j ∧ 1 ≤ gVal ws j)
    (hkind : (inf = false ∧ N = ds.length) ∨ (inf = true ∧ rest = [] ∧ N = ds.length + 1)) :
    codeAny (model pw w) A (.call (.ref ad.lc) ⟨[.str x t, .ref la], []⟩)
      (RetG base s (fun v h => ∃ tt ta pa tv pv nt, v = .ref tt ∧ s.heap.objs.size ≤ tt ∧ s.heap.objs.size ≤ ta ∧ s.heap.objs.size ≤ pa ∧ h.get? tt = some { cls := .type "tuple", data := .seq [.ref ta, .ref pa].toArray } ∧
        h.get? ta = some { cls := .type "list", data := .seq tv nt } ∧ AllV (IntV ws) tv ds.length ∧ (∃ np, h.get? pa = some { cls := .type "list", data := .seq pv np }) ∧ (∀ i, i < ds.length → ∃ v, pv[i]? = some v ∧ StrV ds i v))) s := by
  have hn0 : x.cps.toList.length = x.length := by simp [Str.length]
  have hleft : ∀ j, (leftOf rest ds j).length ≤ x.length := by
    have key : ∀ j, j ≤ ds.length → (leftOf rest ds j).length ≤ x.length := by
      intro j
      induction j with
      | zero => intro _; rw [← hxs]; omega
      | succ j ih =>
        intro hj
        have := leftOf_step rest ds j (by omega)
        have h2 := ih (by omega)
        rw [this, List.length_append] at h2
        omega
    intro j
    rcases Nat.lt_or_ge ds.length j with q | q
    · have : leftOf rest ds j = leftOf rest ds ds.length := by unfold leftOf; rw [List.drop_eq_nil_of_le (by omega), List.drop_eq_nil_of_le (Nat.le_refl _)]
      rw [this]; exact key _ (Nat.le_refl _)
    · exact key j q
  refine callF (binds := [("line", .str x t), ("sizes", .ref la)]) B T.lim T.lc (by have := R.depth; omega) (fun _ _ _ => rfl) (by rfl) fun s₁ L cd S₁ P₁ => ?_
  have R₁ := R.deeper (envT L ad.lc cd)
  have hroom : (A.deeper (envT L ad.lc cd)).depth < recursionLimit := by have := R₁.depth; omega
  obtain ⟨ogi, _, _, _, hogi, hdgi, _⟩ := T.gi.there
  refine wpAny_execs_cons <| wpAny_Assign_Name <| List_ <| args_nil <| newL (by simp) fun s₂ ta S₂ k₂ hta e₂ => ?_
  have P₂ := P₁.grow k₂
  refine stL P₂ fun s₃ S₃ b₃ P₃ => ?_
  have hLta : L < ta := Nat.lt_of_lt_of_le P₁.lt_size hta
  have e₃ := (b₃.2 ta (Nat.ne_of_gt hLta)).trans e₂
  refine wpAny_execs_cons <| wpAny_Assign_Name <| List_ <| args_nil <| newL (by simp) fun s₄ pa S₄ k₄ hpa e₄ => ?_
  have P₄ := P₃.grow k₄
  have htapa : ta < pa := Nat.lt_of_lt_of_le (Heap.lt_size e₃) hpa
  have hLpa : L < pa := Nat.lt_trans hLta htapa
  refine stL P₄ fun s₅ S₅ b₅ P₅ => ?_
  have t₅ := (b₅.2 ta (Nat.ne_of_gt hLta)).trans (k₄ _ _ e₃)
  have p₅ := (b₅.2 pa (Nat.ne_of_gt hLpa)).trans e₄
  refine wpAny_execs_cons <| wpAny_Assign_Name <| ldL P₅ rfl <| stL P₅ fun s₆ S₆ b₆ P₆ => ?_
  have t₆ := (b₆.2 ta (Nat.ne_of_gt hLta)).trans t₅
  have p₆ := (b₆.2 pa (Nat.ne_of_gt hLpa)).trans p₅
  have hS₆ : Same s s₆ := ((((S₁.trans S₂).trans S₃).trans S₄).trans S₅).trans S₆
  have hpsz : pa < s₆.heap.objs.size := Heap.lt_size p₆
  clear S₁ S₂ S₃ S₄ S₅ S₆ P₁ P₂ P₃ P₄ P₅ b₃ b₅ b₆ k₂ k₄ e₂ e₃ e₄ t₅ p₅
  refine wpAny_execs_cons <| wpAny_mono (Q := fun fl s' => fl = .next ∧ ∃ tv pv nt np l tl, Pt s.heap base outer L s'.heap l ∧ Loc l "told" = some (.ref ta) ∧ Loc l "pieces" = some (.ref pa) ∧ Loc l "left" = some (.str ⟨(leftOf rest ds ds.length).toArray⟩ tl) ∧
      s'.heap.get? ta = some { cls := .type "list", data := .seq tv nt } ∧ AllV (IntV ws) tv ds.length ∧ s'.heap.get? pa = some { cls := .type "list", data := .seq pv np } ∧ AllV (StrV ds) pv ds.length ∧ s'.os = s.os ∧ ∃ gs, s'.gens = s.gens.push gs ∧ gs.bare = true)
    (E := fun _ _ => False) ?_ (fun fl s₇ h₇ => ?_) fun _ _ z => z.elim
  · refine wpAny_For <| Call_ <| ldG T P₆ T.gi.glob <| cD hdgi <| aC <| ldL P₆ rfl <| args_nil ⟨P₆.fr.keep _ _ hogi, wpAny_call <|
      gen_call (A' := A.deeper (envT L ad.lc cd)) (N := N) (inf := inf) (ws := ws) P₆.fr.keep (Nat.le_trans P₆.fr.above (Nat.le_of_lt P₆.lt_size)) T G hroom R₁.handled la items hla hit hne hend fun s₇ a G₇ hLa os₇ k₇ => ?_⟩
    refine wpAny_pyIter_gen G₇.gen ?_
    rw [hS₆.1] at G₇
    refine codeAny_forLoop (I := fun n s' => ∃ j tv pv nt np l tl, Pt s.heap base outer L s'.heap l ∧ Loc l "told" = some (.ref ta) ∧ Loc l "pieces" = some (.ref pa) ∧ Loc l "left" = some (.str ⟨(leftOf rest ds j).toArray⟩ tl) ∧
      s'.heap.get? ta = some { cls := .type "list", data := .seq tv nt } ∧ AllV (IntV ws) tv j ∧ s'.heap.get? pa = some { cls := .type "list", data := .seq pv np } ∧ AllV (StrV ds) pv j ∧ s'.os = s.os ∧
      GenJ w (A.deeper (envT L ad.lc cd)) base s₆.heap.objs.size a s.gens N inf ws j s' ∧ j + n = ds.length) (fun n s₈ hI => ?_) ds.length
      ⟨0, #[], #[], 0, 0, _, t, P₆.grow k₇, rfl, rfl, by rw [← hxs]; rfl, k₇ _ _ t₆, AllV.nil _, k₇ _ _ p₆, AllV.nil _, os₇.trans hS₆.2, G₇, Nat.zero_add _⟩
    obtain ⟨j, tv, pv, nt, np, l, tl, P₈, ht₈, hp₈, hl₈, t₈, TV, p₈, PV, os₈, G₈, hj⟩ := hI
    have hLs : L < s₆.heap.objs.size := Nat.lt_trans hLpa hpsz
    by_cases hjn : j = ds.length ∧ inf = false
    · obtain ⟨rfl, rfl⟩ := hjn
      have hN : N = ds.length := by
        rcases hkind with ⟨_, h⟩ | ⟨h, _⟩
        · exact h
        · cases h
      subst hN
      refine gen_done R₁.handled (T.lim.keeps P₈.fr.keep) hroom hLa P₈.fr.keep (Nat.le_trans P₈.fr.above (Nat.le_of_lt hLs)) G₈ fun s₉ g₉ os₉ k₉ => ?_
      have kk : ∀ b o, b < s₆.heap.objs.size → s₈.heap.get? b = some o → s₉.heap.get? b = some o := fun b o hb e => k₉ b o (Nat.le_of_lt (Nat.lt_trans hb hLa)) (Nat.ne_of_lt hb) e
      exact wpAny_execs_nil ⟨rfl, tv, pv, nt, np, l, tl, P₈.below hLs kk, ht₈, hp₈, hl₈, kk _ _ (Nat.lt_trans htapa hpsz) t₈, TV, kk _ _ hpsz p₈, PV, os₉.trans os₈, _, g₉, rfl⟩
    · have hjN : j < N := by
        rcases hkind with ⟨h, h2⟩ | ⟨_, _, h2⟩
        · have : j ≠ ds.length := fun q => hjn ⟨q, h⟩
          omega
        · omega
      refine gen_item R₁.handled (T.lim.keeps P₈.fr.keep) hroom hLa P₈.fr.keep (Nat.le_trans P₈.fr.above (Nat.le_of_lt hLs)) G₈ hjN fun s₉ tj G₉ os₉ k₉ => ?_
      have kk : ∀ b o, b < s₆.heap.objs.size → s₈.heap.get? b = some o → s₉.heap.get? b = some o := fun b o hb e => k₉ b o (Nat.le_of_lt (Nat.lt_trans hb hLa)) (Nat.ne_of_lt hb) e
      have P₉ := P₈.below hLs kk
      have t₉ := kk _ _ (Nat.lt_trans htapa hpsz) t₈
      have p₉ := kk _ _ hpsz p₈
      refine assign_Name <| stL P₉ fun s₁₀ S₁₀ b₁₀ P₁₀ => ?_
      have t₁₀ := (b₁₀.2 ta (Nat.ne_of_gt hLta)).trans t₉
      have p₁₀ := (b₁₀.2 pa (Nat.ne_of_gt hLpa)).trans p₉
      have G₁₀ := G₉.frame hLa S₁₀.1 (fun b o hb e => (b₁₀.2 b (Nat.ne_of_gt (Nat.lt_of_lt_of_le hLs hb))).trans e)
      have os₁₀ : s₁₀.os = s.os := S₁₀.2.trans (os₉.trans os₈)
      have hl₁₀ := Loc_ne (x := "size") (v := .int (gVal ws j : Nat) tj) hl₈
      have ht₁₀ := Loc_ne (x := "size") (v := .int (gVal ws j : Nat) tj) ht₈
      have hp₁₀ := Loc_ne (x := "size") (v := .int (gVal ws j : Nat) tj) hp₈
      have hz₁₀ := Loc_eq "size" (.int (gVal ws j : Nat) tj) l
      refine wpAny_execs_cons <| wpAny_If <| isTrue_or <| wpAny_isTrue_Compare1 <| ldL P₁₀ hl₁₀ <| wpAny_Constant_str <| eq_str <| wpAny_truthy_bool ?_
      by_cases hje : j = ds.length
      · subst hje
        have hinf : inf = true := by
          cases hq : inf with
          | false => exact absurd ⟨rfl, hq⟩ hjn
          | true => rfl
        have hrest : rest = [] := by
          rcases hkind with ⟨h, _⟩ | ⟨_, h, _⟩
          · rw [hinf] at h; cases h
          · exact h
        rw [show ((⟨(leftOf rest ds ds.length).toArray⟩ : Str) == Str.ofString "") = true by rw [leftOf_end, hrest]; decide, if_pos rfl, if_pos rfl]
        refine wpAny_execs_cons <| wpAny_Break ?_
        obtain ⟨_, gs, eg, hb, _⟩ := G₁₀
        exact ⟨rfl, tv, pv, nt, np, _, tl, P₁₀, ht₁₀, hp₁₀, hl₁₀, t₁₀, TV, p₁₀, PV, os₁₀, gs, eg, hb⟩
      · have hjlt : j < ds.length := by omega
        obtain ⟨hd1, hd2⟩ := hlen j hjlt
        have hst := leftOf_step rest ds j hjlt
        have hlj := hleft j
        have hll : (⟨(leftOf rest ds j).toArray⟩ : Str).length = (leftOf rest ds (j + 1)).length + gVal ws j := by rw [str_len, hst, List.length_append, hd1]
        have hll2 := str_len (leftOf rest ds j)
        have hne' : ((⟨(leftOf rest ds j).toArray⟩ : Str) == Str.ofString "") = false := by
          rw [beq_eq_false_iff_ne]
          intro q
          have : (⟨(leftOf rest ds j).toArray⟩ : Str).length = 0 := by rw [q]; rfl
          omega
        rw [hne', if_neg (by decide)]
        refine isTrue_or <| wpAny_isTrue_Compare1 <| Call_ <| ldB (s := { s₁₀ with toks := _ }) T P₁₀ Boot.«len» <| cB <| aC <| ldL (s := { s₁₀ with toks := _ }) P₁₀ ht₁₀ <| args_nil <| len_list (items := tv) ⟨_, t₁₀, rfl, _, rfl⟩ (by rw [TV.1]; omega) <|
          wpAny_Constant_int <| gt_int <| wpAny_truthy_bool ?_
        rw [TV.1, show decide ((40 : Int) < (j : Int)) = false by rw [decide_eq_false_iff_not]; omega, if_neg (by decide)]
        refine isTrue_or_nil ?_
        rw [if_neg (by decide)]
        refine wpAny_execs_nil <| wpAny_execs_cons <| wpAny_Expr <| MethodCall_ <| ldL (s := { s₁₀ with toks := _ }) P₁₀ ht₁₀ <| getMethod_list_append t₁₀ rfl rfl <| cM <| aC <| ldL (s := { s₁₀ with toks := _ }) P₁₀ hz₁₀ <| args_nil <|
          append_at t₁₀ (hsz := by rw [TV.1, sizeLine_eq]; omega) fun h₁₁ b₁₁ t₁₁ => ?_
        have P₁₁ : Pt s.heap base outer L h₁₁ _ := P₁₀.upd hLta b₁₁.extBut
        have p₁₁ := (b₁₁.2 pa (Nat.ne_of_gt htapa)).trans p₁₀
        have hta6 : ta < s₆.heap.objs.size := Nat.lt_trans htapa hpsz
        refine wpAny_execs_cons <| wpAny_Expr <| MethodCall_ <| ldL (s := { s₁₀ with heap := h₁₁, toks := _ }) P₁₁ hp₁₀ <| getMethod_list_append p₁₁ rfl rfl <| cM <| aC <|
          Subscript_ <| ldL (s := { s₁₀ with heap := h₁₁, toks := _ }) P₁₁ hl₁₀ <| wpAny_Slice <| evalPart_some_step <| UnaryOp_ <| ldL (s := { s₁₀ with heap := h₁₁, toks := _ }) P₁₁ hz₁₀ <| neg_int <| evalPart_none_step <| evalPart_none_step <|
          sliceFrom (s := { s₁₀ with heap := h₁₁, toks := _ }) (by omega) hd2 (by omega) fun h₁₂ t12 c12 k₁₂ => ?_
        have P₁₂ : Pt s.heap base outer L h₁₂ _ := P₁₁.grow k₁₂
        have t₁₂ := k₁₂ _ _ t₁₁
        have p₁₂ := k₁₂ _ _ p₁₁
        refine args_nil <| append_at p₁₂ (hsz := by rw [PV.1, sizeLine_eq]; omega) fun h₁₃ b₁₃ p₁₃ => ?_
        have P₁₃ : Pt s.heap base outer L h₁₃ _ := P₁₂.upd hLpa b₁₃.extBut
        have t₁₃ := (b₁₃.2 ta (Nat.ne_of_lt htapa)).trans t₁₂
        refine wpAny_execs_cons <| wpAny_Assign_Name <| Subscript_ <| ldL (s := { s₁₀ with heap := h₁₃, toks := _ }) P₁₃ hl₁₀ <| wpAny_Slice <| evalPart_none_step <| evalPart_some_step <| UnaryOp_ <| ldL (s := { s₁₀ with heap := h₁₃, toks := _ }) P₁₃ hz₁₀ <| neg_int <| evalPart_none_step <|
          sliceTo (s := { s₁₀ with heap := h₁₃, toks := _ }) (by omega) hd2 (by omega) fun h₁₄ t14 c14 k₁₄ => ?_
        have P₁₄ : Pt s.heap base outer L h₁₄ _ := P₁₃.grow k₁₄
        have t₁₄ := k₁₄ _ _ t₁₃
        have p₁₄ := k₁₄ _ _ p₁₃
        refine stL (s := { s₁₀ with heap := h₁₄, toks := _ }) P₁₄ fun s₁₅ S₁₅ b₁₅ P₁₅ => ?_
        have t₁₅ := (b₁₅.2 ta (Nat.ne_of_gt hLta)).trans t₁₄
        have p₁₅ := (b₁₅.2 pa (Nat.ne_of_gt hLpa)).trans p₁₄
        refine wpAny_execs_nil ⟨n - 1, by omega, j + 1, _, _, _, _, _, t14, P₁₅, Loc_ne ht₁₀, Loc_ne hp₁₀, ?_, t₁₅, TV.push ⟨tj, rfl⟩, p₁₅, PV.push ⟨t12, ?_⟩, S₁₅.2.trans os₁₀, ?_, by omega⟩
        · rw [Loc_eq, hll, hst]
          congr 4
          rw [Nat.add_sub_cancel, List.take_left']
          rfl
        · congr 2
          rw [hll, Nat.add_sub_cancel]
          show ((leftOf rest ds j).toArray.toList.drop _).toArray = _
          rw [hst, List.drop_left']
          rfl
        · refine G₁₀.frame hLa S₁₅.1 fun b o hb e => ?_
          refine (b₁₅.2 b (Nat.ne_of_gt (Nat.lt_of_lt_of_le hLs hb))).trans (k₁₄ _ _ ((b₁₃.2 b (Nat.ne_of_gt (Nat.lt_of_lt_of_le hpsz hb))).trans (k₁₂ _ _ ((b₁₁.2 b (Nat.ne_of_gt (Nat.lt_of_lt_of_le hta6 hb))).trans e))))
  · obtain ⟨rfl, tv, pv, nt, np, l, tl, P₇, ht₇, hp₇, hl₇, t₇, TV, p₇, PV, os₇, gs, g₇, hb⟩ := h₇
    refine wpAny_execs_cons <| wpAny_Return_some <| Tuple_ <| aC <| ldL P₇ ht₇ <| aC <| wpAny_BinOp <| ldL P₇ hp₇ <| List_ <| aC <| ldL P₇ hl₇ <| args_nil <| newL (by simp) fun s₈ lb S₈ k₈ hlb e₈ => ?_
    have P₈ := P₇.grow k₈
    refine addL (k₈ _ _ p₇) e₈ (by rw [PV.1]; simp; omega) fun s₉ pb S₉ k₉ hpb e₉ => ?_
    have P₉ := P₈.grow k₉
    refine args_nil <| newT (by simp) fun s₁₀ tt S₁₀ k₁₀ htt e₁₀ => ?_
    have P₁₀ := P₉.grow k₁₀
    have sz : ∀ {b}, L < b → s.heap.objs.size ≤ b := fun {b} hb => Nat.le_trans P₇.new (Nat.le_of_lt hb)
    refine ⟨_, rfl, P₁₀.fr.keep, P₁₀.up, ((S₈.trans S₉).trans S₁₀).2.trans os₇, ⟨gs, ((S₈.trans S₉).trans S₁₀).1.trans g₇, hb⟩, tt, ta, pb, tv, _, nt, rfl, sz ?_, sz hLta, sz ?_, e₁₀, k₁₀ _ _ (k₉ _ _ (k₈ _ _ t₇)), TV, ⟨_, k₁₀ _ _ e₉⟩, fun i hi => ?_⟩
    · exact Nat.lt_of_lt_of_le P₉.lt_size htt
    · exact Nat.lt_of_lt_of_le P₈.lt_size hpb
    · obtain ⟨v, e, hv⟩ := PV.2 i hi
      refine ⟨v, ?_, hv⟩
      rw [Array.getElem?_append_left (by rw [PV.1]; exact hi)]
      exact e
end
end Mine
end

-- part L1
section
open PySem PySem.W PySem.Calls PyProof.Rows PySem.SeqAt
set_option Elab.async false
set_option maxRecDepth 100000
namespace Mine

section
variable {w : World} {A : Around} {E : Value → Shared → Prop} {R : Result → Shared → Prop} {s : Shared} {h₀ base : Heap} {outer : List Env} {L f : Addr} {cd : Value} {l : List (Str × Value)} {name : Str} {fsc : Scope}

theorem compLoop_any {elt target iter : Expr} {scope : Scope} {pos : Pos} {it acc : Value} {env : Env} (I : Nat → Shared → Prop)
    (turn : ∀ n s, I n s → wpAny (model pw w) A (pyNext it) (fun r s₁ => match r with
      | none => R (.ok .next) s₁
      | some v => wpAny (model pw w) A (letOwnedTupleGo target it v) (fun _ s₁' => wpAny (model pw w) A (assign target env v) (fun _ s₂ => wpAny (model pw w) A (eval elt env) (fun x s₃ =>
          wpAny (model pw w) A (call (.builtin "list.append") [acc, x]) (fun _ s₄ => ∃ m, m < n ∧ I m s₄) (notedBy (model pw w) A env fun e s' => R (.error e) s') s₃)
          (notedBy (model pw w) A env fun e s' => R (.error e) s') s₂) (notedBy (model pw w) A env fun e s' => R (.error e) s') s₁') (notedBy (model pw w) A env fun e s' => R (.error e) s') s₁) (notedBy (model pw w) A env fun e s' => R (.error e) s') s)
    (n : Nat) (h : I n s) :
    codeAny (model pw w) A (.compLoop (.ListComp elt [⟨target, iter, [], 0⟩] scope pos) 0 it acc env) R s := by
  refine codeAny_loop rfl I (fun n s hI => ?_) n h
  show wpAny _ _ ((compTurn (.ListComp elt [⟨target, iter, [], 0⟩] scope pos) 0 it acc env).onRaise (fun x => do noteFrame x env; theTreesLotGoes x)) _ _ s
  refine wpAny_noted ?_
  rw [compTurn_list1]
  refine wpAny_bind (wpAny_standAt (wpAny_bind (wpAny_mono (turn n s hI) (fun r s₁ h₁ => ?_) fun _ _ h' => h')))
  cases r with
  | none => exact wpAny_pure h₁
  | some v =>
    refine wpAny_bind (wpAny_mono h₁ (fun _ s₁' h₁' => ?_) fun _ _ h' => h')
    exact wpAny_bind (wpAny_mono h₁' (fun _ s₂ h₂ => wpAny_bind (wpAny_bind (wpAny_mono h₂ (fun x s₃ h₃ => wpAny_bind (wpAny_mono h₃
      (fun _ s₄ h₄ => wpAny_pure (wpAny_pure ⟨rfl, h₄⟩)) fun _ _ h' => h')) fun _ _ h' => h'))) fun _ _ h' => h')

abbrev envN (name : Str) (fsc : Scope) (L f : Addr) (cd : Value) : Env := envOf name fsc L f cd

/-- x = [elt for target in a list] -/
theorem compA {elt target iter : Expr} {y : Str} {py : Pos} {scope : Scope} {pos spos : Pos} {Q : Flow → Shared → Prop} (hh : A.handled = none)
    (P : Addr → Nat → Value → Heap → Prop) (hP : ∀ X i v h h', P X i v h → (∀ b o, X ≤ b → h.get? b = some o → h'.get? b = some o) → P X i v h')
    (h : wpAny (model pw w) A (eval iter (envOf name fsc L f cd)) (fun xv s₁ => ∃ ax items, xv = .ref ax ∧ L < ax ∧ s₁.heap.IsList ax items ∧ items.size ≤ 100000 ∧ Pt h₀ base outer L s₁.heap l ∧
      (∀ C I i v s₂ E', s₁.heap.objs.size < C → items[i]? = some v → Pt h₀ base outer L s₂.heap l → (∃ m, s₂.heap.Ns C m) → s₂.heap.IsListIter I ax (i + 1) → (∀ b o, L < b → s₁.heap.get? b = some o → s₂.heap.get? b = some o) →
        wpAny (model pw w) A (letOwnedTupleGo target (.ref I) v) (fun _ s₂' => wpAny (model pw w) A (assign target (compEnv scope C (envOf name fsc L f cd)) v) (fun _ s₃ => wpAny (model pw w) A (eval elt (compEnv scope C (envOf name fsc L f cd)))
          (fun u s₄ => P (C + 1) i u s₄.heap ∧ Pt h₀ base outer L s₄.heap l ∧ Same s₂ s₄ ∧ (∃ m, s₄.heap.Ns C m) ∧ (∀ b o, L < b → b ≠ C → s₂.heap.get? b = some o → s₄.heap.get? b = some o)) E' s₃) E' s₂') E' s₂) ∧
      (∀ s' D ys X, Same s₁ s' → Pt h₀ base outer L s'.heap (putv y (.ref D) l) → L < D → s₁.heap.objs.size ≤ D → D < X → (∃ n, s'.heap.get? D = some { cls := .type "list", data := .seq ys n }) → ys.size = items.size →
        (∀ i, i < items.size → ∃ v, ys[i]? = some v ∧ P X i v s'.heap) → (∀ b o, L < b → s₁.heap.get? b = some o → s'.heap.get? b = some o) → Q .next s')) E s)
    (hsw : swapsWith (.ListComp elt [⟨target, iter, [], 0⟩] scope pos) (some (.Name y py)) spos.line (envOf name fsc L f cd) = pure true := by rfl)
    (hfree : ∀ x ∈ scope.names, x.2 ≠ .free := by decide) (hcell : ∀ x ∈ scope.names, x.2 ≠ .cell := by decide) (hkind : scope.kind = .function := by rfl)
    (hnames : ∀ x ∈ scope.names, x.2 = .local → scope.names.lookup x.1 = some .local := by decide)
    (hfk : fsc.kind = .function := by rfl) (hyl : (envOf name fsc L f cd).kindOf y = some .local := by rfl)
    (hs : ∀ x, foldedSetIterable iter (envOf name fsc L f cd) x = pure x := by intro _; rfl) :
    wpAny (model pw w) A (exec (.Assign [.Name y py] (.ListComp elt [⟨target, iter, [], 0⟩] scope pos) spos) (envOf name fsc L f cd)) Q E s := by
  rw [exec_Assign_Name_used _ _ _ _ hsw]
  refine wpAny_bind (wpAny_standAt (wpAny_bind ?_))
  show wpAny _ A (do let _ ← comprehension (.ListComp elt [⟨target, iter, [], 0⟩] scope pos) scope (envOf name fsc L f cd) _ (newList []) false (eval iter (envOf name fsc L f cd)) (some (assign (.Name y py) (envOf name fsc L f cd)))) _ _ s
  refine wpAny_bind (wpAny_mono (wpAny_comprehension_use (Q := fun _ s' => Q .next s') rfl hs hfree hkind hnames (wpAny_mono h (fun xv s₁ h₁ => ?_) fun _ _ e => e))
    (fun _ s' hq => wpAny_pure (wpAny_pure hq)) fun _ _ e => e)
  obtain ⟨ax, items, rfl, hLax, hl, hsz, P₁, helt, hQ⟩ := h₁
  refine wpAny_pyIter_list hl (wpAny_newObj_type (hd := by size_fits) (wpAny_newFunctionEnv hcell (by intro y hy; simp at hy) (fun h₁ hns₁ hsb₁ => ?_) hkind))
  dsimp only at hns₁ hsb₁ ⊢
  generalize hH1 : s₁.heap.push { cls := .type "list_iterator", data := .fields #[.ref ax, .int 0 0] } = H1 at hns₁ hsb₁ ⊢
  have hD : H1.objs.size = s₁.heap.objs.size + 1 := by rw [← hH1, Heap.size_push]
  generalize hH2 : H1.push { cls := .type "list", dict := none, data := .seq ([] : List Value).toArray } = H2 at hns₁ hsb₁ ⊢
  have hC : H2.objs.size = s₁.heap.objs.size + 2 := by rw [← hH2, Heap.size_push, hD]
  generalize hIe : s₁.heap.objs.size = I at *
  generalize hDe : H1.objs.size = D at *
  generalize hCe : H2.objs.size = C at *
  have k₁ : ∀ b o, s₁.heap.get? b = some o → h₁.get? b = some o := fun b o e =>
    hsb₁.extBut b o (by have := Heap.lt_size e; rw [hIe] at this; rw [hC]; exact Nat.ne_of_lt (Nat.lt_add_right 2 this)) (Heap.get?_push_of_some _ (hH2 ▸ Heap.get?_push_of_some _ (hH1 ▸ Heap.get?_push_of_some _ e)))
  have hit : h₁.IsListIter I ax 0 :=
    ⟨_, hsb₁.extBut _ _ (by rw [hC]; exact Nat.ne_of_lt (Nat.lt_add_of_pos_right (by decide))) (Heap.get?_push_of_some _ (hH2 ▸ Heap.get?_push_of_some _ (hH1 ▸ hIe ▸ Heap.get?_push_size _ rfl))), rfl, rfl⟩
  have hacc : h₁.get? D = some { cls := .type "list", data := .seq #[] } :=
    hsb₁.extBut _ _ (by rw [hC, hD]; exact Nat.ne_of_lt (Nat.lt_succ_self _)) (Heap.get?_push_of_some _ (hH2 ▸ hDe ▸ Heap.get?_push_size _ rfl))
  have hLI : L < I := hIe ▸ P₁.lt_size
  have hID : I < D := by rw [hD]; exact Nat.lt_succ_self _
  have hDC : D < C := by rw [hC, hD]; exact Nat.lt_succ_self _
  have haxI : ax < I := let ⟨_, e, _⟩ := hl; hIe ▸ Heap.lt_size e
  have loop : ∀ s₂ : Shared, s₂ = { s₁ with heap := h₁, toks := s₁.toks + ([] : List (Str × Value)).length } →
      codeAny (model pw w) A (.compLoop (.ListComp elt [⟨target, iter, [], 0⟩] scope pos) 0 (.ref I) (.ref D) (compEnv scope C (envOf name fsc L f cd)))
        (fun r s' => match r with
          | .ok _ => wpAny (model pw w) A (assign (.Name y py) (envOf name fsc L f cd) (.ref D)) (fun _ s'' => ∃ m, s''.heap.Ns C m ∧ ∀ h', Heap.SameBut C s''.heap h' → Q .next { s'' with heap := h' }) E s'
          | .error x => ∃ m, s'.heap.Ns C m ∧ ∀ h', Heap.SameBut C s'.heap h' → wpAny (model pw w) A (passOn "comprehension.variables-let-go" x (compEnv scope C (envOf name fsc L f cd)) : Sem Value) (fun _ s' => Q .next s') E { s' with heap := h' }) s₂ := by
    rintro s₂ rfl
    refine compLoop_any (I := fun n s' => ∃ i ys, Pt h₀ base outer L s'.heap l ∧ (∃ m, s'.heap.Ns C m) ∧ s'.heap.IsListIter I ax i ∧ (∃ n, s'.heap.get? D = some { cls := .type "list", data := .seq ys n }) ∧ ys.size = i ∧
      (∀ j, j < i → ∃ v, ys[j]? = some v ∧ P (C + 1) j v s'.heap) ∧ Same s₁ s' ∧ (∀ b o, L < b → s₁.heap.get? b = some o → s'.heap.get? b = some o) ∧ i + n = items.size) (fun n s₃ hI => ?_) items.size
      ⟨0, #[], P₁.grow k₁, ⟨_, hns₁⟩, hit, ⟨_, hacc⟩, rfl, fun j hj => absurd hj (Nat.not_lt_zero _), ⟨rfl, rfl⟩, fun b o _ e => k₁ b o e, Nat.zero_add _⟩
    obtain ⟨i, ys, P₃, ⟨m₃, n₃⟩, i₃, ⟨na, d₃⟩, hys, hel, S₃, kp₃, hin⟩ := hI
    have l₃ : s₃.heap.IsList ax items := let ⟨o, e, r⟩ := hl; ⟨o, kp₃ _ _ hLax e, r⟩
    cases hx : items[i]? with
    | none =>
      have hi : i = items.size := by have := Array.getElem?_eq_none_iff.mp hx; omega
      refine wpAny_pyNext_list_end hh i₃ l₃ hx fun h₄ he => ?_
      have P₄ : Pt h₀ base outer L h₄ l := P₃.upd hLI he
      have d₄ := he D _ (Nat.ne_of_gt hID) d₃
      have n₄ : h₄.Ns C m₃ := n₃.extBut he (Nat.ne_of_gt (Nat.lt_trans hID hDC))
      refine assign_Name (stL (s := { s₃ with heap := h₄ }) P₄ (fun s₅ S₅ b₅ P₅ => ?_) hfk hyl)
      have hLC : L < C := Nat.lt_trans hLI (Nat.lt_trans hID hDC)
      refine ⟨m₃, n₄.sameBut b₅ (Nat.ne_of_gt hLC), fun h₆ b₆ => ?_⟩
      refine hQ _ D ys (C + 1) (S₃.trans S₅) (P₅.upd hLC b₆.extBut) (Nat.lt_trans hLI hID) (Nat.le_of_lt hID) (Nat.lt_succ_of_lt hDC) ⟨na, ?_⟩ (by rw [hys, hi]) (fun j hj => ?_) fun b o hb e => ?_
      · exact (b₆.2 D (Nat.ne_of_lt hDC)).trans ((b₅.2 D (Nat.ne_of_gt (Nat.lt_trans hLI hID))).trans d₄)
      · obtain ⟨v, e, hp⟩ := hel j (by omega)
        refine ⟨v, e, hP _ _ _ _ _ hp fun b o hb e => ?_⟩
        have hCb : C < b := hb
        exact (b₆.2 b (Nat.ne_of_gt hCb)).trans ((b₅.2 b (Nat.ne_of_gt (Nat.lt_trans hLC hCb))).trans (he b o (Nat.ne_of_gt (Nat.lt_trans (Nat.lt_trans hID hDC) hCb)) e))
      · have hbI : b < I := hIe ▸ Heap.lt_size e
        exact (b₆.2 b (Nat.ne_of_lt (Nat.lt_trans hbI (Nat.lt_trans hID hDC)))).trans ((b₅.2 b (Nat.ne_of_gt hb)).trans (he b o (Nat.ne_of_lt hbI) (kp₃ b o hb e)))
    | some v =>
      have hi : i < items.size := (Array.getElem?_eq_some_iff.mp hx).1
      refine wpAny_pyNext_list_item i₃ l₃ hx fun h₄ i₄ b₄ => ?_
      have P₄ : Pt h₀ base outer L h₄ l := P₃.upd hLI b₄.extBut
      refine wpAny_mono (helt C I i v { s₃ with heap := h₄ } _ (by rw [hC]; exact Nat.lt_add_of_pos_right (by decide)) hx P₄ ⟨m₃, n₃.sameBut b₄ (Nat.ne_of_gt (Nat.lt_trans hID hDC))⟩ i₄ fun b o hb e => (b₄.2 b (Nat.ne_of_lt (hIe ▸ Heap.lt_size e))).trans (kp₃ b o hb e)) (fun _ _ z => wpAny_mono z (fun _ _ z => wpAny_mono z (fun u s₅ h₅ => ?_) fun _ _ z => z) fun _ _ z => z) fun _ _ z => z
      obtain ⟨hp, P₅, S₅, ⟨m₅, n₅⟩, kp₅⟩ := h₅
      have d₅ := kp₅ D _ (Nat.lt_trans hLI hID) (Nat.ne_of_lt hDC) ((b₄.2 D (Nat.ne_of_gt hID)).trans d₃)
      have i₅ : s₅.heap.IsListIter I ax (i + 1) := let ⟨o, e, r⟩ := i₄; ⟨o, kp₅ I o hLI (Nat.ne_of_lt (Nat.lt_trans hID hDC)) e, r⟩
      refine append_at d₅ (hsz := by rw [hys, sizeLine_eq]; omega) fun h₆ b₆ d₆ => ?_
      have hLD : L < D := Nat.lt_trans hLI hID
      refine ⟨n - 1, by omega, i + 1, _, P₅.upd hLD b₆.extBut, ⟨m₅, n₅.sameBut b₆ (Nat.ne_of_gt hDC)⟩, i₅.extBut b₆.extBut (Nat.ne_of_lt hID), ⟨_, d₆⟩, by rw [Array.size_push, hys], fun j hj => ?_, S₃.trans S₅, fun b o hb e => ?_, by omega⟩
      · rcases Nat.lt_or_ge j i with q | q
        · obtain ⟨v', e, hp'⟩ := hel j q
          refine ⟨v', ?_, hP _ _ _ _ _ hp' fun b o hb e => ?_⟩
          · rw [Array.getElem?_push, if_neg (by rw [hys]; omega)]; exact e
          · have hCb : C < b := hb
            exact (b₆.2 b (Nat.ne_of_gt (Nat.lt_trans hDC hCb))).trans (kp₅ b o (Nat.lt_trans hLD (Nat.lt_trans hDC hCb)) (Nat.ne_of_gt hCb) ((b₄.2 b (Nat.ne_of_gt (Nat.lt_trans (Nat.lt_trans hID hDC) hCb))).trans e))
        · have : j = i := by omega
          subst this
          refine ⟨u, ?_, hP _ _ _ _ _ hp fun b o hb e => ?_⟩
          · rw [Array.getElem?_push, if_pos hys.symm]
          · exact (b₆.2 b (Nat.ne_of_gt (Nat.lt_trans hDC hb))).trans e
      · have hbI : b < I := hIe ▸ Heap.lt_size e
        exact (b₆.2 b (Nat.ne_of_lt (Nat.lt_trans hbI hID))).trans (kp₅ b o hb (Nat.ne_of_lt (Nat.lt_trans hbI (Nat.lt_trans hID hDC))) ((b₄.2 b (Nat.ne_of_lt hbI)).trans (kp₃ b o hb e)))
  exact codeAny_compStart_list (loop _ rfl) (wpAny_pyIter_listiter hit (loop _ rfl))
end
end Mine
end

-- part L2
section
open PySem PySem.W PySem.Calls PyProof.Rows PySem.SeqAt
set_option Elab.async false
set_option maxRecDepth 100000
namespace Mine

theorem filterMap_rangeV (xs : List Value) : ∀ (c lo : Nat), lo + c ≤ xs.length → ((List.range c).map (fun k => lo + k)).filterMap (xs[·]?) = (xs.drop lo).take c
  | 0, lo, _ => by simp
  | c + 1, lo, h => by
    rw [List.range_succ_eq_map, List.map_cons, List.map_map]
    have e : (List.range c).map ((fun k => lo + k) ∘ Nat.succ) = (List.range c).map (fun k => (lo + 1) + k) := by
      apply List.map_congr_left; intro a _; simp only [Function.comp]; omega
    rw [e, List.filterMap_cons]
    have h1 : lo < xs.length := by omega
    rw [show xs[lo + 0]? = some xs[lo] from by simp [h1]]
    simp only
    rw [filterMap_rangeV xs c (lo + 1) (by omega), List.drop_eq_getElem_cons h1, List.take_succ_cons]

theorem pick_cut (vs : List Value) (l u : Option Int) : slicePick vs.toArray l u none = ((vs.take (hiOf u vs.length)).drop (loOf l vs.length)).toArray := by
  have hh : hiOf u vs.length ≤ vs.length := by cases u <;> simp only [hiOf, clipN] <;> omega
  have hlo : loOf l vs.length ≤ vs.length := by cases l <;> simp only [loOf, clipN] <;> omega
  have e1 : (sliceBounds l u none vs.length) = ((loOf l vs.length : Int), (hiOf u vs.length : Int), 1) := by
    cases l <;> cases u <;> simp only [sliceBounds, Option.getD_none, loOf, hiOf, clipN, show (1 : Int) > 0 from by decide, if_true] <;> refine Prod.ext ?_ (Prod.ext ?_ rfl) <;> dsimp only <;> omega
  unfold slicePick
  rw [show vs.toArray.size = vs.length by simp, e1]
  dsimp only
  have e2 : sliceRange (loOf l vs.length : Int) (hiOf u vs.length : Int) 1 = (List.range (hiOf u vs.length - loOf l vs.length)).map (fun k => loOf l vs.length + k) := by
    unfold sliceRange
    have : (if (1 : Int) > 0 then (if (loOf l vs.length : Int) < hiOf u vs.length then ((hiOf u vs.length : Int) - loOf l vs.length + 1 - 1) / 1 else 0) else (if (loOf l vs.length : Int) > hiOf u vs.length then ((loOf l vs.length : Int) - hiOf u vs.length - 1 - 1) / (-1) else 0)).toNat = hiOf u vs.length - loOf l vs.length := by
      rw [if_pos (by decide)]
      split <;> omega
    dsimp only
    rw [this]
    apply List.map_congr_left
    intro k _
    omega
  rw [e2]
  have e3 : (fun i : Nat => vs.toArray[i]?) = fun i => vs[i]? := by funext i; simp
  rw [e3]
  congr 1
  by_cases q : loOf l vs.length ≤ hiOf u vs.length
  · rw [filterMap_rangeV _ _ _ (by omega), List.drop_take]
  · rw [show hiOf u vs.length - loOf l vs.length = 0 by omega]
    simp only [List.range_zero, List.map_nil, List.filterMap_nil]
    rw [eq_comm, List.drop_eq_nil_iff, List.length_take]; omega

theorem filterMap_rev (xs : List Value) : ((List.range xs.length).map (fun k => xs.length - 1 - k)).filterMap (xs[·]?) = xs.reverse := by
  have e0 : (List.range xs.length).map (fun k => 0 + k) = List.range xs.length := by
    rw [show (fun k => 0 + k) = (id : Nat → Nat) by funext k; simp]; simp
  have e := filterMap_rangeV xs xs.length 0 (by omega)
  rw [e0] at e
  have er : (List.range xs.length).map (fun k => xs.length - 1 - k) = (List.range xs.length).reverse := by
    apply List.ext_getElem
    · simp
    · intro i h1 h2
      simp
  rw [er, List.filterMap_reverse, e]
  simp
theorem pick_rev (vs : List Value) : slicePick vs.toArray none none (some (-1)) = vs.reverse.toArray := by
  unfold slicePick
  have e1 : sliceBounds none none (some (-1)) vs.toArray.size = ((vs.length : Int) - 1, -1, -1) := by simp [sliceBounds]
  rw [e1]
  dsimp only
  have e2 : sliceRange ((vs.length : Int) - 1) (-1) (-1) = (List.range vs.length).map (fun k => vs.length - 1 - k) := by
    unfold sliceRange
    have : (if (-1 : Int) > 0 then (if (vs.length : Int) - 1 < -1 then ((-1 : Int) - (vs.length - 1) + -1 - 1) / (-1) else 0) else (if (vs.length : Int) - 1 > -1 then ((vs.length : Int) - 1 - -1 - -1 - 1) / (- -1) else 0)).toNat = vs.length := by
      rw [if_neg (by decide), show (- -1 : Int) = 1 from rfl]
      split <;> omega
    dsimp only
    rw [this]
    apply List.map_congr_left
    intro k hk
    have := List.mem_range.mp hk
    omega
  rw [e2]
  have e3 : (fun i : Nat => vs.toArray[i]?) = fun i => vs[i]? := by funext i; simp
  rw [e3, filterMap_rev vs]

section
variable {w : World} {M : Model} {A : Around} {E : Value → Shared → Prop} {s : Shared} {h₀ base h h' : Heap} {outer : List Env} {mg mb : Str → Option Value} {ad : Ads} {L f a e : Addr} {cd : Value} {env : Env} {l : List (Str × Value)}

theorem sliceV {value slice : Expr} {la : Addr} {vs : List Value} {vl vu vt : Value} {lo hi st : Option Int} {ws : List Value} {Q : Value → Shared → Prop}
    (hl : s.heap.IsList la vs.toArray) (hz : vs.length ≤ 100000) (pl : IsPart vl lo) (pu : IsPart vu hi) (pt : IsPart vt st) (h0 : st ≠ some 0) (hw : slicePick vs.toArray lo hi st = ws.toArray)
    (h : ∀ s' r, Same s s' → s.heap.StaysIn s'.heap → s.heap.objs.size ≤ r → s'.heap.get? r = some { cls := .type "list", data := .seq ws.toArray } → Q (.ref r) s')
    (hs : subscripted slice false (.ref la) (.ref s.heap.objs.size) = operate [.ref s.heap.objs.size, .ref la] (getItem (.ref la) (.ref s.heap.objs.size)) := by with_unfolding_all rfl)
    (ht : ∀ r, letTemporaryGo value (.ref la) r = pure () := by intro _; with_unfolding_all rfl) :
    wpAny (model pw w) A (subscriptTail value slice (.ref la) (.ref s.heap.objs.size)) Q E { s with heap := s.heap.push { cls := .type "slice", data := .fields #[vl, vu, vt] } } := by
  have hI : (s.heap.push { cls := .type "slice", data := .fields #[vl, vu, vt] }).IsList la vs.toArray := let ⟨o, e, r⟩ := hl; ⟨o, Heap.get?_push_of_some _ e, r⟩
  refine subscriptTail_ops (Heap.IsList.typeIs (s := { s with heap := s.heap.push { cls := .type "slice", data := .fields #[vl, vu, vt] } }) hI) list_getitem_lookup
    (wpAny_getItem_list_slice hI (Heap.IsSliceOf.new ..) pl pu pt h0 ?_ (by rw [sizeLine_eq]; simp; omega)) hs ht
  rw [hw]
  refine h _ _ ⟨rfl, rfl⟩ (fun _ _ e => Heap.get?_push_of_some _ (Heap.get?_push_of_some _ e)) ?_ (Heap.get?_push_size _ rfl)
  rw [Heap.size_push]; exact Nat.le_succ _

theorem sliceW {value slice : Expr} {la : Addr} {vs : List Value} {vl vu vt : Value} {lo hi st : Option Int} {ws : List Value} {Q : Value → Shared → Prop}
    (hl : s.heap.IsList la vs.toArray) (hz : vs.length ≤ 100000) (pl : IsPart vl lo) (pu : IsPart vu hi) (pt : IsPart vt st) (h0 : st ≠ some 0) (hw : slicePick vs.toArray lo hi st = ws.toArray)
    (h : ∀ s' r, Same s s' → s.heap.StaysIn s'.heap → s.heap.objs.size ≤ r → s'.heap.get? r = some { cls := .type "list", data := .seq ws.toArray } → Q (.ref r) s')
    (hs : subscripted slice false (.ref la) (.ref s.heap.objs.size) = operate [.ref la, .ref s.heap.objs.size] (getItem (.ref la) (.ref s.heap.objs.size)) := by with_unfolding_all rfl)
    (ht : ∀ r, letTemporaryGo value (.ref la) r = pure () := by intro _; with_unfolding_all rfl) :
    wpAny (model pw w) A (subscriptTail value slice (.ref la) (.ref s.heap.objs.size)) Q E { s with heap := s.heap.push { cls := .type "slice", data := .fields #[vl, vu, vt] } } := by
  have hI : (s.heap.push { cls := .type "slice", data := .fields #[vl, vu, vt] }).IsList la vs.toArray := let ⟨o, e, r⟩ := hl; ⟨o, Heap.get?_push_of_some _ e, r⟩
  refine subscriptTail_ops (Heap.IsList.typeIs (s := { s with heap := s.heap.push { cls := .type "slice", data := .fields #[vl, vu, vt] } }) hI) list_getitem_lookup
    (wpAny_getItem_list_slice hI (Heap.IsSliceOf.new ..) pl pu pt h0 ?_ (by rw [sizeLine_eq]; simp; omega)) hs ht
  rw [hw]
  refine h _ _ ⟨rfl, rfl⟩ (fun _ _ e => Heap.get?_push_of_some _ (Heap.get?_push_of_some _ e)) ?_ (Heap.get?_push_size _ rfl)
  rw [Heap.size_push]; exact Nat.le_succ _

theorem sumL {la : Addr} {vs : List Value} {n : Nat} {ns : List Int} {Q : Value → Shared → Prop} (hh : A.handled = none) (hl : s.heap.get? la = some { cls := .type "list", data := .seq vs.toArray n }) (hi : IntsAre vs ns)
    (h : ∀ s' t, Same s s' → s.heap.StaysIn s'.heap → Q (.int ns.sum t) s') : wpAny (model pw w) A (call (.builtin "sum") [.ref la]) Q E s := by
  obtain ⟨xs, hxs⟩ := hi.allInts.items
  have hI : s.heap.IsList la (intItems xs) := hxs ▸ ⟨_, hl, rfl, _, rfl⟩
  refine sum_intListG hh hI fun h' tk t' hk => ?_
  have e : preSum (numAt xs) xs.size = ns.sum := by
    have e1 : numsOf vs = ns := hi.numsOf
    have e2 : vs = (intItems xs).toList := by rw [← hxs]
    rw [← e1, e2, nums_intItems, preSum_eq, List.take_of_length_le (by simp)]
  rw [e]
  exact h _ t' ⟨rfl, rfl⟩ hk

theorem mulX {la : Addr} {items : Array Value} {n : Nat} {x : Int} {u : Tok} {Q : Value → Shared → Prop} (hl : s.heap.get? la = some { cls := .type "list", dict := none, data := .seq items n, slots := #[] })
    (hlo : -(2 ^ 63 : Int) ≤ x) (hhi : x < 2 ^ 63) (hsz : items.size * x.toNat ≤ 2 ^ 24)
    (h : Q (.ref s.heap.objs.size) { s with heap := s.heap.push { cls := .type "list", data := .seq (List.foldl (fun x1 x2 => x1 ++ x2) #[] (List.replicate (if items.isEmpty = true then 0 else x.toNat) items)) } }) :
    wpAny (model pw w) A (binaryOp .Mult (.ref la) (.int x u)) Q E s :=
  wpAny_binaryOp_repeat_ref (T := "list") (U := "int") (by decide) ⟨_, hl, rfl⟩ (fun s' => typeIs_int s' x u) noFill_list_mul PySem.F.fills_int_mul PySem.F.slot_int_rmul repeat_list PySem.F.slot_int_index.lookup
    (call_meets PySem.F.slot_int_rmul (typeIs_int s x u) PySem.F.entry_int_rmul (PySem.F.args_int_rmul_2 _ _) (int___rmul___int_list x u la items n)
      ⟨hl, rfl, ⟨_, hl, rfl⟩, call_meets PySem.F.slot_list_mul ⟨_, hl, rfl⟩ PySem.F.entry_list_mul (PySem.F.args_list_mul_2 _ _)
        (AutoListH.list___mul___list_int_3 la items n x u (by simp [Builtin.List.listFitsIndex]; omega) (by omega) (by simp [Builtin.List.listTooLong, sizeLine]; omega))
        ⟨hl, h⟩⟩)
theorem mulL {la : Addr} {vs : List Value} {n k : Nat} {u : Tok} {Q : Value → Shared → Prop} (hl : s.heap.get? la = some { cls := .type "list", data := .seq vs.toArray n }) (hz : vs.length * k ≤ 100000) (hk : k ≤ 100000)
    (h : ∀ s' r, Same s s' → s.heap.StaysIn s'.heap → s.heap.objs.size ≤ r → s'.heap.get? r = some { cls := .type "list", data := .seq (List.replicate k vs).flatten.toArray } → Q (.ref r) s') :
    wpAny (model pw w) A (binaryOp .Mult (.ref la) (.int k u)) Q E s := by
  have e : List.foldl (fun x1 x2 => x1 ++ x2) #[] (List.replicate (if vs.toArray.isEmpty = true then 0 else (k : Int).toNat) vs.toArray) = (List.replicate k vs).flatten.toArray := by
    have key : ∀ (m : Nat) (acc : Array Value), List.foldl (fun x1 x2 => x1 ++ x2) acc (List.replicate m vs.toArray) = acc ++ (List.replicate m vs).flatten.toArray := by
      intro m
      induction m with
      | zero => intro acc; simp
      | succ m ih => intro acc; rw [List.replicate_succ, List.foldl_cons, ih]; simp [List.replicate_succ]
    rw [key]
    by_cases q : vs = []
    · subst q; simp
    · rw [if_neg (by simpa using q)]; simp
  have h24 : (100000 : Nat) ≤ 2 ^ 24 := by decide
  refine mulX hl (by omega) (by omega) (by simp only [List.size_toArray, Int.toNat_natCast]; exact Nat.le_trans hz h24) ?_
  rw [e]
  exact h _ _ ⟨rfl, rfl⟩ (fun _ _ e => Heap.get?_push_of_some _ e) (Nat.le_refl _) (Heap.get?_push_size _ rfl)

/-- the strs of a list -/
def StrsAre (vs : List Value) (ds : List (List Nat)) : Prop := ∃ ts : List (Str × Tok), vs = strValues ts ∧ ts.map (·.1) = ds.map fun d => ⟨d.toArray⟩
theorem joinL {la : Addr} {vs : List Value} {n : Nat} {ds : List (List Nat)} {t : Tok} {Q : Value → Shared → Prop} (hl : s.heap.get? la = some { cls := .type "list", data := .seq vs.toArray n }) (hv : StrsAre vs ds) (hb : ∀ d ∈ ds, d.length ≤ 3000) (hn : ds.length ≤ 100)
    (h : ∀ t' k, Q (.str ⟨ds.flatten.toArray⟩ t') { s with toks := k }) : wpAny (model pw w) A (call (.builtin "str.join") [.str (Str.ofString "") t, .ref la]) Q E s := by
  obtain ⟨ts, rfl, hts⟩ := hv
  have e : Txt.join (Str.ofString "") (ds.map fun d => ⟨d.toArray⟩) = ⟨ds.flatten.toArray⟩ := by
    have key : ∀ ds : List (List Nat), Str.join (Str.ofString "") (ds.map fun d => ⟨d.toArray⟩) = ⟨ds.flatten.toArray⟩ := by
      intro ds
      induction ds with
      | nil => rfl
      | cons d r ih =>
        cases r with
        | nil => simp [Str.join]
        | cons d2 r =>
          show (⟨d.toArray⟩ : Str) ++ Str.ofString "" ++ Str.join (Str.ofString "") ((d2 :: r).map fun d => ⟨d.toArray⟩) = _
          rw [ih, show Str.ofString "" = ⟨([] : List Nat).toArray⟩ by decide, str_app, str_app]
          simp
    exact (StrLaws.glued_eq_join _ _).trans (key ds)
  refine SC.join ⟨_, hl, rfl, _, rfl⟩ hts ?_ fun t' k => ?_
  · unfold JoinOk
    rw [Bool.not_eq_true']
    refine StrLaws.joinFits (B := 3000) (fun y hy => ?_) ?_
    · obtain ⟨d, hd, rfl⟩ := List.mem_map.mp hy
      rw [str_len]; exact hb d hd
    · rw [List.length_map, show (Str.ofString "").length = 0 by decide]; omega
  · rw [e]; exact h t' k
end
end Mine
end

-- part L3
section
open PySem PySem.W PySem.Calls PyProof.Rows PySem.SeqAt
set_option Elab.async false
set_option maxRecDepth 100000
namespace Mine

/-- all behind the frame stays -/
def Go (L : Addr) (s s' : Shared) : Prop := Same s s' ∧ ∀ b o, L < b → s.heap.get? b = some o → s'.heap.get? b = some o
theorem Go.refl (L : Addr) (s : Shared) : Go L s s := ⟨Same.refl s, fun _ _ _ e => e⟩
theorem Go.trans {L : Addr} {a b c : Shared} (x : Go L a b) (y : Go L b c) : Go L a c := ⟨x.1.trans y.1, fun d o h e => y.2 d o h (x.2 d o h e)⟩
theorem Go.same {L : Addr} {s s' : Shared} (S : Same s s') (b : Heap.SameBut L s.heap s'.heap) : Go L s s' := ⟨S, fun a _ h e => (b.2 a (Nat.ne_of_gt h)).trans e⟩
theorem Go.grow {L : Addr} {s s' : Shared} (S : Same s s') (k : s.heap.StaysIn s'.heap) : Go L s s' := ⟨S, fun b o _ e => k b o e⟩

section
variable {w : World} {M : Model} {A : Around} {E : Value → Shared → Prop} {s : Shared} {h₀ base h h' : Heap} {outer : List Env} {mg mb : Str → Option Value} {ad : Ads} {L f C : Addr} {cd : Value} {env : Env} {l : List (Str × Value)} {scope : Scope} {m : Str → Option Value}

theorem ldC {x : Str} {pos : Pos} {v : Value} {Q : Value → Shared → Prop} (hn : s.heap.Ns C m) (hv : m x = some v) (h : Q v s)
    (hk : scope.kind = .function := by rfl) (hl : (compEnv scope C env).kindOf x = some .local := by rfl) (hd : (x == ("__debug__" : Str)) = false := by decide) :
    wpAny M A (eval (.Name x pos) (compEnv scope C env)) Q E s := wpAny_Name (wpAny_loadName_local hk hl hn hv h) hd
theorem ldCG {x : Str} {pos : Pos} {v : Value} {Q : Value → Shared → Prop} (hg : s.heap.Ns mainGlobals mg) (hv : mg x = some v) (h : Q v s) (he : env.globals = mainGlobals := by rfl)
    (hk : scope.kind = .function := by rfl) (hx : (compEnv scope C env).kindOf x = some .globalImplicit := by rfl) (hd : (x == ("__debug__" : Str)) = false := by decide) :
    wpAny M A (eval (.Name x pos) (compEnv scope C env)) Q E s :=
  Calls.Name_function_global hk hx (Calls.loadGlobal_global (env := compEnv scope C env) (by show s.heap.Ns env.globals mg; rw [he]; exact hg) hv h) hd
theorem ldCB {x : Str} {pos : Pos} {v : Value} {Q : Value → Shared → Prop} (T : Gl mg mb ad s.heap) (hv : bootBuiltins x = some v) (h : Q v s) (he : env.globals = mainGlobals := by rfl) (hb : env.builtins = builtinsNs := by rfl)
    (hf : x ∈ freeNames := by decide) (hn : x ≠ "__name__" := by decide)
    (hk : scope.kind = .function := by rfl) (hx : (compEnv scope C env).kindOf x = some .globalImplicit := by rfl) (hd : (x == ("__debug__" : Str)) = false := by decide) :
    wpAny M A (eval (.Name x pos) (compEnv scope C env)) Q E s :=
  Calls.Name_function_global hk hx (Calls.loadGlobal_builtin (env := compEnv scope C env) (by show s.heap.Ns env.globals mg; rw [he]; exact T.g) (T.free x hf) (by show s.heap.Ns env.builtins mb; rw [hb]; exact T.b) ((T.blt x hn).trans hv) h) hd
theorem stC {x : Str} {v : Value} {Q : Unit → Shared → Prop} (hn : s.heap.Ns C m)
    (h : ∀ s', Same s s' → Heap.SameBut C s.heap s'.heap → s'.heap.Ns C (fun y => if y = x then some v else m y) → Q () s')
    (hk : scope.kind = .function := by rfl) (hl : (compEnv scope C env).kindOf x = some .local := by rfl) :
    wpAny M A (storeName (compEnv scope C env) x v) Q E s :=
  wpAny_storeName_local hl hn (fun h' hn' hs => h _ ⟨rfl, rfl⟩ hs hn') (by show (scope.kind == .class || (scope.kind == .module && C != env.globals)) = false; rw [hk]; rfl)

abbrev envQ (L f : Addr) (cd : Value) : Env := envOf "law" (fnScope (stAt 25)) L f cd
end
end Mine
end

-- part L4
section
open PySem PySem.W PySem.Calls PyProof.Rows PySem.SeqAt
set_option Elab.async false
set_option maxRecDepth 100000
namespace Mine

theorem intsAre_of : ∀ (vs : List Value) (ns : List Int), vs.length = ns.length → (∀ i, i < vs.length → ∃ t, vs[i]? = some (.int (ns.getD i 0) t)) → IntsAre vs ns
  | [], [], _, _ => .nil
  | [], _ :: _, h, _ => by simp at h
  | _ :: _, [], h, _ => by simp at h
  | v :: vs, n :: ns, h, hk => by
    obtain ⟨t, e⟩ := hk 0 (by simp)
    simp at e
    subst e
    exact .cons n t (intsAre_of vs ns (by simpa using h) fun i hi => by
      obtain ⟨t, e⟩ := hk (i + 1) (by simp; omega)
      exact ⟨t, by simpa using e⟩)
theorem ints_at : ∀ {vs : List Value} {ns : List Int}, IntsAre vs ns → ∀ i, i < vs.length → ∃ t, vs[i]? = some (.int (ns.getD i 0) t)
  | _, _, .nil, i, h => by simp at h
  | _, _, .cons n t r, 0, _ => ⟨t, by simp⟩
  | _, _, .cons n t r, i + 1, h => by
    obtain ⟨u, e⟩ := ints_at r i (by simpa using h)
    exact ⟨u, by simpa using e⟩

section
variable {w : World} {A : Around} {E : Value → Shared → Prop} {s : Shared} {h₀ base : Heap} {outer : List Env} {mg mb : Str → Option Value} {ad : Ads} {L f : Addr} {cd : Value} {l : List (Str × Value)}

theorem law0 (hh : A.handled = none) (P : Pt h₀ base outer L s.heap l) {sa : Addr} {vs : List Value} {nums : List Int} (hl : Loc l "script" = some (.ref sa)) (hsa : base.IsList sa vs.toArray) (hi : IntsAre vs nums) (hn : nums.length ≤ 63) :
    wpAny (model pw w) A (exec (stIn 25 0) (envQ L f cd)) (fun fl s' => fl = .next ∧ ∃ da ds n', Pt h₀ base outer L s'.heap (putv "draws" (.ref da) l) ∧ L < da ∧ s'.heap.get? da = some { cls := .type "list", data := .seq ds.toArray n' } ∧
      IntsAre ds (nums.map fun n => n % 1000000) ∧ Go L s s') E s := by
  have hlen : vs.length = nums.length := hi.length
  refine compA (h₀ := h₀) (base := base) (outer := outer) (l := l) hh (fun _ i v _ => ∃ t, v = .int ((nums.map fun n => n % 1000000).getD i 0) t) (fun _ _ _ _ _ h _ => h) ?_
  have hsa' : s.heap.IsList sa vs.toArray := let ⟨o, e, r⟩ := hsa; ⟨o, P.fr.keep _ _ e, r⟩
  refine Subscript_ <| ldL P hl <| wpAny_Slice <| evalPart_none_step <| evalPart_some_step <| wpAny_Constant_int <| evalPart_none_step <|
    sliceV (s := { s with toks := _ }) hsa' (by omega) .none (.int _ _) .none (by simp) (pick_cut vs none (some 63)) fun s₁ ax S₁ k₁ hax e₁ => ?_
  have hw : (vs.take (hiOf (some (63 : Int)) vs.length)).drop (loOf none vs.length) = vs := by
    rw [show loOf none vs.length = 0 from rfl, List.drop_zero, show hiOf (some (63 : Int)) vs.length = vs.length by simp only [hiOf, clipN]; omega, List.take_length]
  rw [hw] at e₁
  refine ⟨ax, vs.toArray, rfl, Nat.lt_of_lt_of_le P.lt_size hax, ⟨_, e₁, rfl, _, rfl⟩, by simp; omega, P.grow k₁, ?_, ?_⟩
  · intro C I i v s₂ E' hC hx P₂ ⟨m, n₂⟩ _ _
    have hiv : i < vs.length := by have := (Array.getElem?_eq_some_iff.mp hx).1; simpa using this
    obtain ⟨t, e⟩ := ints_at hi i hiv
    have hv : v = .int (nums.getD i 0) t := by
      have : vs.toArray[i]? = vs[i]? := by simp
      rw [this, e] at hx; exact (Option.some.inj hx).symm
    subst hv
    refine wpAny_pure <| assign_Name <| stC n₂ fun s₃ S₃ b₃ n₃ => ?_
    refine wpAny_BinOp <| ldC n₃ (if_pos rfl) <| wpAny_BinOp <| wpAny_Constant_int <| wpAny_Constant_int <| pow_int_small (by decide) (by decide) (by decide) <| mod_int' (by decide) ?_
    have hLC : L < C := Nat.lt_trans (Nat.lt_of_lt_of_le P.lt_size (show s.heap.objs.size ≤ s₁.heap.objs.size from Nat.le_trans hax (Nat.le_of_lt (Heap.lt_size e₁)))) hC
    have ev : (nums.map fun n => n % 1000000).getD i 0 = nums.getD i 0 % 1000000 := by
      have : i < nums.length := by omega
      simp [List.getD, this]
    rw [show ((10 : Int) ^ (6 : Int).toNat) = 1000000 from rfl, Int.fmod_eq_emod_of_nonneg _ (by decide), ev]
    exact ⟨⟨_, rfl⟩, P₂.upd hLC b₃.extBut, S₃, ⟨_, n₃⟩, fun b o hb hbC e => (b₃.2 b hbC).trans e⟩
  · intro s' D ys X S' P' hD _ _ ⟨n', e'⟩ hys hel kp
    refine ⟨rfl, D, ys.toList, n', P', hD, by simpa using e', intsAre_of _ _ (by simp [hys, hlen]) fun i hi => ?_, ⟨S₁.trans S', fun b o hb e => kp b o hb (k₁ b o e)⟩⟩
    obtain ⟨v, e, t, rfl⟩ := hel i (by simp [hys] at hi ⊢; exact hi)
    exact ⟨t, by simpa using e⟩
end
end Mine
end

-- part L5
section
open PySem PySem.W PySem.Calls PyProof.Rows PySem.SeqAt
set_option Elab.async false
set_option maxRecDepth 100000
namespace Mine

def nInts (ns : List Nat) : List Int := ns.map fun (n : Nat) => (n : Int)
theorem FldAt.at {h h' : Heap} {t : Addr} {F : Fld} (x : FldAt h t F) (k : ∀ o, h.get? t = some o → h'.get? t = some o) : FldAt h' t F := by
  obtain ⟨t1, t2, t3, t4, o, e, c, n, d⟩ := x
  exact ⟨t1, t2, t3, t4, o, k _ e, c, n, d⟩
def fld0 : Fld := ⟨0, [], 0, 0⟩
/-- the fields as a list of tuples behind L -/
structure Flds (L : Addr) (h : Heap) (vs : List Value) (Fs : List Fld) : Prop where
  len : vs.length = Fs.length
  each : ∀ i, i < vs.length → ∃ t, vs[i]? = some (.ref t) ∧ L < t ∧ FldAt h t (Fs.getD i fld0)
theorem Flds.go {L : Addr} {s s' : Shared} {vs : List Value} {Fs : List Fld} (x : Flds L s.heap vs Fs) (g : Go L s s') : Flds L s'.heap vs Fs :=
  ⟨x.len, fun i hi => let ⟨t, e, hL, hF⟩ := x.each i hi; ⟨t, e, hL, hF.at fun o q => g.2 t o hL q⟩⟩

section
variable {w : World} {A : Around} {E : Value → Shared → Prop} {s : Shared} {h₀ base : Heap} {outer : List Env} {mg mb : Str → Option Value} {ad : Ads} {L f : Addr} {cd : Value} {l : List (Str × Value)}

def xsOf (dr : List Nat) : List Nat := [367, 225, 340] ++ dr.take 8 ++ [406]

theorem law1 (hA : A.frames = some outer) (T : Gl mg mb ad base) (R : Room (A.deeper (envQ L f cd)) 5) (P : Pt h₀ base outer L s.heap l) {da : Addr} {ds : List Value} {n : Nat} {dr : List Nat} (hl : Loc l "draws" = some (.ref da)) (hLd : L < da)
    (hda : s.heap.get? da = some { cls := .type "list", data := .seq ds.toArray n }) (hi : IntsAre ds (nInts dr)) (hn : dr.length ≤ 63) :
    wpAny (model pw w) (A.deeper (envQ L f cd)) (exec (stIn 25 1) (envQ L f cd)) (fun fl s' => fl = .next ∧ ∃ fa vs n', Pt h₀ base outer L s'.heap (putv "drawn" (.ref fa) l) ∧ L < fa ∧ s'.heap.get? fa = some { cls := .type "list", data := .seq vs.toArray n' } ∧
      Flds L s'.heap vs ((xsOf dr).map fOf) ∧ Go L s s') E s := by
  have hlen : ds.length = dr.length := by rw [hi.length]; simp [nInts]
  obtain ⟨olf, _, _, _, holf, hdlf, _⟩ := T.lf.there
  refine compA (h₀ := h₀) (base := base) (outer := outer) (l := l) R.handled (fun X i v h => ∃ t, v = .ref t ∧ X ≤ t ∧ FldAt h t (fOf ((xsOf dr).getD i 0))) (fun X i v h h' ⟨t, e, hX, hF⟩ k => ⟨t, e, hX, hF.at fun o q => k t o hX q⟩) ?_
  refine wpAny_BinOp <| wpAny_BinOp <| List_ <| aC <| wpAny_Constant_int <| aC <| wpAny_Constant_int <| aC <| wpAny_Constant_int <| args_nil <| newL (by simp) fun s₁ la S₁ k₁ hla e₁ => ?_
  have P₁ := P.grow k₁
  refine Subscript_ <| ldL P₁ hl <| wpAny_Slice <| evalPart_none_step <| evalPart_some_step <| wpAny_Constant_int <| evalPart_none_step <|
    sliceV (s := { s₁ with toks := _ }) ⟨_, k₁ _ _ hda, rfl, _, rfl⟩ (by omega) .none (.int _ _) .none (by simp) (pick_cut ds none (some 8)) fun s₂ lb S₂ k₂ hlb e₂ => ?_
  have hw : (ds.take (hiOf (some (8 : Int)) ds.length)).drop (loOf none ds.length) = ds.take 8 := by
    rw [show loOf none ds.length = 0 from rfl, List.drop_zero]
    rcases Nat.lt_or_ge ds.length 8 with q | q
    · rw [show hiOf (some (8 : Int)) ds.length = ds.length by simp only [hiOf, clipN]; omega, List.take_length, List.take_of_length_le (by omega)]
    · rw [show hiOf (some (8 : Int)) ds.length = 8 by simp only [hiOf, clipN]; omega]
  rw [hw] at e₂
  have P₂ := P₁.grow k₂
  refine addL (k₂ _ _ e₁) e₂ (by simp; omega) fun s₃ lc S₃ k₃ hlc e₃ => ?_
  have P₃ := P₂.grow k₃
  refine List_ <| aC <| wpAny_Constant_int <| args_nil <| newL (by simp) fun s₄ ld S₄ k₄ hld e₄ => ?_
  have P₄ := P₃.grow k₄
  refine addL (k₄ _ _ e₃) e₄ (by simp; omega) fun s₅ ax S₅ k₅ hax e₅ => ?_
  have P₅ := P₄.grow k₅
  have hS₅ : Same s s₅ := (((S₁.trans S₂).trans S₃).trans S₄).trans S₅
  have hk₅ : s.heap.StaysIn s₅.heap := fun b o e => k₅ _ _ (k₄ _ _ (k₃ _ _ (k₂ _ _ (k₁ _ _ e))))
  generalize hit : (([Value.int 367 s.toks, Value.int 225 (s.toks + 1), Value.int 340 (s.toks + 1 + 1)].toArray ++ (List.take 8 ds).toArray) ++ [Value.int 406 s₃.toks].toArray) = items at e₅
  have hitl : ∃ t1 t2 t3 t4, items = ([Value.int 367 t1, Value.int 225 t2, Value.int 340 t3] ++ ds.take 8 ++ [Value.int 406 t4]).toArray := ⟨s.toks, s.toks + 1, s.toks + 1 + 1, s₃.toks, by rw [← hit]; simp⟩
  obtain ⟨t1, t2, t3, t4, hitl⟩ := hitl
  have hints : IntsAre ([Value.int 367 t1, Value.int 225 t2, Value.int 340 t3] ++ ds.take 8 ++ [Value.int 406 t4]) (nInts (xsOf dr)) := by
    have e : nInts (xsOf dr) = [367, 225, 340] ++ (nInts dr).take 8 ++ [406] := by simp [nInts, xsOf]
    rw [e]
    exact ((IntsAre.cons _ _ (.cons _ _ (.cons _ _ .nil))).append (hi.take 8)).append (.cons _ _ .nil)
  have hxl : (xsOf dr).length = items.size := by rw [hitl]; have := hints.length; simp only [List.size_toArray]; rw [this]; simp [nInts]
  have hxs : (xsOf dr).length ≤ 12 := by simp [xsOf]; omega
  refine ⟨ax, items, rfl, Nat.lt_of_lt_of_le P₄.lt_size hax, ⟨_, e₅, rfl, _, rfl⟩, by omega, P₅, ?_, ?_⟩
  · intro C I i v s₆ E' hC hx P₆ ⟨m, n₆⟩ _ _
    have hiv : i < items.size := (Array.getElem?_eq_some_iff.mp hx).1
    obtain ⟨t, e⟩ := ints_at hints i (by rw [hitl] at hiv; simpa using hiv)
    have hv : v = .int ((xsOf dr).getD i 0 : Nat) t := by
      rw [hitl] at hx
      have : ([Value.int 367 t1, Value.int 225 t2, Value.int 340 t3] ++ ds.take 8 ++ [Value.int 406 t4]).toArray[i]? = ([Value.int 367 t1, Value.int 225 t2, Value.int 340 t3] ++ ds.take 8 ++ [Value.int 406 t4])[i]? := by simp
      rw [this, e] at hx
      have e2 : (nInts (xsOf dr)).getD i 0 = ((xsOf dr).getD i 0 : Nat) := by
        have : i < (xsOf dr).length := by omega
        simp [nInts, List.getD, this]
      rw [e2] at hx
      exact (Option.some.inj hx).symm
    subst hv
    have hLC : L < C := Nat.lt_trans P₅.lt_size hC
    refine wpAny_pure <| assign_Name <| stC n₆ fun s₇ S₇ b₇ n₇ => ?_
    have P₇ : Pt h₀ base outer L s₇.heap l := P₆.upd hLC b₇.extBut
    refine Call_ <| ldCG (T.g.keeps P₇.fr.keep) T.lf.glob <| cD hdlf <| aC <| ldC n₇ (if_pos rfl) <| args_nil ⟨P₇.fr.keep _ _ holf, wpAny_call <|
      codeAny_mono (field_spec (by exact P₇.bl (env := envQ L f cd) hA rfl) (T.keeps P₇.base_in) (R.less (by omega)) _ _) fun r s₈ h₈ => ?_⟩
    obtain ⟨v, rfl, st, up, S₈, tt, rfl, hF, htt⟩ := h₈
    have P₈ := P₇.back st up
    have kk : ∀ b o, L < b → s₇.heap.get? b = some o → s₈.heap.get? b = some o := fun b o hb e => st b o (P₇.inner_get hb e)
    exact ⟨⟨tt, rfl, Nat.lt_of_lt_of_le n₇.lt htt, hF⟩, P₈, S₇.trans S₈, ⟨_, n₇.at' fun o e => kk _ _ hLC e⟩, fun b o hb hbC e => kk b o hb ((b₇.2 b hbC).trans e)⟩
  · intro s' D ys X S' P' hD hD2 hDX ⟨n', e'⟩ hys hel kp
    refine ⟨rfl, D, ys.toList, n', P', hD, by simpa using e', ⟨by simp [hys, hxl], fun i hi => ?_⟩, ⟨hS₅.trans S', fun b o hb e => kp b o hb (hk₅ b o e)⟩⟩
    obtain ⟨v, e, t, rfl, hX, hF⟩ := hel i (by simp [hys] at hi ⊢; exact hi)
    refine ⟨t, by simpa using e, Nat.lt_trans hD (Nat.lt_of_lt_of_le hDX hX), ?_⟩
    have : i < (xsOf dr).length := by simp [hys] at hi; omega
    have e2 : ((xsOf dr).map fOf).getD i fld0 = fOf ((xsOf dr).getD i 0) := by simp [List.getD, this]
    rw [e2]; exact hF
end
end Mine
end

-- part L6
section
open PySem PySem.W PySem.Calls PyProof.Rows PySem.SeqAt
set_option Elab.async false
set_option maxRecDepth 100000
namespace Mine

section
variable {w : World} {A : Around} {E : Value → Shared → Prop} {s : Shared} {h₀ base : Heap} {outer : List Env} {mg mb : Str → Option Value} {ad : Ads} {L f C : Addr} {cd : Value} {l : List (Str × Value)} {scope : Scope} {env : Env} {m : Str → Option Value}

theorem unpackC {x1 x2 x3 x4 : Str} {p1 p2 p3 p4 tp : Pos} {kk : _} {t : Addr} {v1 v2 v3 v4 : Value} {Q : Unit → Shared → Prop} (hh : A.handled = none) (hn : s.heap.Ns C m) (ht : IsTup s.heap t #[v1, v2, v3, v4])
    (h : ∀ s' m', Same s s' → Heap.ExtBut C s.heap s'.heap → s'.heap.Ns C m' → m' x1 = some v1 → m' x2 = some v2 → m' x3 = some v3 → m' x4 = some v4 → Q () s')
    (d12 : x1 ≠ x2 := by decide) (d13 : x1 ≠ x3 := by decide) (d14 : x1 ≠ x4 := by decide) (d23 : x2 ≠ x3 := by decide) (d24 : x2 ≠ x4 := by decide) (d34 : x3 ≠ x4 := by decide)
    (hk : scope.kind = .function := by rfl) (h1 : (compEnv scope C env).kindOf x1 = some .local := by rfl) (h2 : (compEnv scope C env).kindOf x2 = some .local := by rfl)
    (h3 : (compEnv scope C env).kindOf x3 = some .local := by rfl) (h4 : (compEnv scope C env).kindOf x4 = some .local := by rfl) :
    wpAny (model pw w) A (assign (.Tuple [.Name x1 p1, .Name x2 p2, .Name x3 p3, .Name x4 p4] kk tp) (compEnv scope C env) (.ref t)) Q E s := by
  refine assign_Tuple_tuple hh ht rfl rfl fun h' he => ?_
  have k' : s.heap.StaysIn h' := fun b o q => he b o (Nat.ne_of_lt (Heap.lt_size q)) q
  refine assignInOrder_cons (assign_Name (stC (s := { s with heap := h' }) (hn.keeps k') (fun s₁ S₁ b₁ n₁ => ?_) hk h1))
  refine assignInOrder_cons (assign_Name (stC n₁ (fun s₂ S₂ b₂ n₂ => ?_) hk h2))
  refine assignInOrder_cons (assign_Name (stC n₂ (fun s₃ S₃ b₃ n₃ => ?_) hk h3))
  refine assignInOrder_cons (assign_Name (stC n₃ (fun s₄ S₄ b₄ n₄ => ?_) hk h4))
  refine assignInOrder_nil (h s₄ _ ?_ (fun b o hb q => ?_) n₄ ?_ ?_ ?_ ?_)
  · exact ((Same.trans S₁ S₂).trans S₃).trans S₄
  · exact b₄.extBut b o hb (b₃.extBut b o hb (b₂.extBut b o hb (b₁.extBut b o hb (k' b o q))))
  · simp only [if_neg d14, if_neg d13, if_neg d12, if_pos]
  · simp only [if_neg d24, if_neg d23, if_pos]
  · simp only [if_neg d34, if_pos]
  · simp only [if_pos]

/-- a comprehension over the fields -/
theorem compF {elt iter : Expr} {y : Str} {py : Pos} {pos spos tp p1 p2 p3 p4 : Pos} {kk : _} (hh : A.handled = none) (P : Pt h₀ base outer L s.heap l) {fa : Addr} {vs : List Value} {n : Nat} {Fs : List Fld} (V : Nat → Value → Prop) (hLf : L < fa)
    (hfa : s.heap.get? fa = some { cls := .type "list", data := .seq vs.toArray n }) (hF : Flds L s.heap vs Fs) (hz : vs.length ≤ 100000)
    (hit : ∀ {Q : Value → Shared → Prop}, Q (.ref fa) s → wpAny (model pw w) A (eval iter (envQ L f cd)) Q E s)
    (helt : ∀ C i (s₂ : Shared) m E' t1 t2 t3 t4, i < vs.length → L < C → Pt h₀ base outer L s₂.heap l → s₂.heap.Ns C m → m "ahead" = some (.int (Fs.getD i fld0).a t1) → m "word" = some (.str ⟨(Fs.getD i fld0).w.toArray⟩ t2) → m "behind" = some (.int (Fs.getD i fld0).b t3) → m "amount" = some (.int (Fs.getD i fld0).k t4) →
      wpAny (model pw w) A (eval elt (compEnv scope C (envQ L f cd))) (fun u s₄ => V i u ∧ ∃ tk, s₄ = { s₂ with toks := tk }) E' s₂)
    (hsw : swapsWith (.ListComp elt [⟨.Tuple [.Name "ahead" p1, .Name "word" p2, .Name "behind" p3, .Name "amount" p4] kk tp, iter, [], 0⟩] scope pos) (some (.Name y py)) spos.line (envQ L f cd) = pure true := by rfl)
    (hfree : ∀ x ∈ scope.names, x.2 ≠ .free := by decide) (hcell : ∀ x ∈ scope.names, x.2 ≠ .cell := by decide) (hkind : scope.kind = .function := by rfl)
    (hnames : ∀ x ∈ scope.names, x.2 = .local → scope.names.lookup x.1 = some .local := by decide)
    (hyl : (envQ L f cd).kindOf y = some .local := by rfl)
    (h1 : scope.names.lookup (Str.ofString "ahead") = some .local := by rfl) (h2 : scope.names.lookup (Str.ofString "word") = some .local := by rfl) (h3 : scope.names.lookup (Str.ofString "behind") = some .local := by rfl) (h4 : scope.names.lookup (Str.ofString "amount") = some .local := by rfl)
    (hs : ∀ x, foldedSetIterable iter (envQ L f cd) x = pure x := by intro _; rfl) :
    wpAny (model pw w) A (exec (.Assign [.Name y py] (.ListComp elt [⟨.Tuple [.Name "ahead" p1, .Name "word" p2, .Name "behind" p3, .Name "amount" p4] kk tp, iter, [], 0⟩] scope pos) spos) (envQ L f cd))
      (fun fl s' => fl = .next ∧ ∃ (da : Addr) (ds : List Value) (n' : Nat), Pt h₀ base outer L s'.heap (putv y (.ref da) l) ∧ L < da ∧ s'.heap.get? da = some { cls := .type "list", data := .seq ds.toArray n' } ∧ ds.length = vs.length ∧
        (∀ i, i < vs.length → ∃ v, ds[i]? = some v ∧ V i v) ∧ Go L s s') E s := by
  refine compA (h₀ := h₀) (base := base) (outer := outer) (l := l) hh (fun _ i v _ => V i v) (fun _ _ _ _ _ h _ => h) ?_ hsw hfree hcell hkind hnames rfl hyl hs
  refine hit ⟨fa, vs.toArray, rfl, hLf, ⟨_, hfa, rfl, _, rfl⟩, by simpa using hz, P, ?_, ?_⟩
  · intro C I i v s₂ E' hC hx P₂ ⟨m, n₂⟩ i₂ k₂
    have hiv : i < vs.length := by have := (Array.getElem?_eq_some_iff.mp hx).1; simpa using this
    obtain ⟨t, e, hLt, hFt⟩ := hF.each i hiv
    have hv : v = .ref t := by
      have : vs.toArray[i]? = vs[i]? := by simp
      rw [this, e] at hx; exact (Option.some.inj hx).symm
    subst hv
    have hLC : L < C := Nat.lt_trans P.lt_size hC
    obtain ⟨t1, t2, t3, t4, hT⟩ := hFt.at fun o q => k₂ t o hLt q
    refine wpAny_letOwnedTupleGo_listiter i₂ <| unpackC hh n₂ hT (fun s₃ m' S₃ b₃ n₃ e1 e2 e3 e4 => ?_) (hk := hkind) (h1 := h1) (h2 := h2) (h3 := h3) (h4 := h4)
    have P₃ : Pt h₀ base outer L s₃.heap l := P₂.upd hLC b₃
    refine wpAny_mono (helt C i s₃ m' E' t1 t2 t3 t4 hiv hLC P₃ n₃ e1 e2 e3 e4) (fun u s₄ h₄ => ?_) fun _ _ z => z
    obtain ⟨hV, tk, rfl⟩ := h₄
    exact ⟨hV, P₃, S₃, ⟨_, n₃⟩, fun b o hb hbC e => b₃ b o hbC e⟩
  · intro s' D ys X S' P' hD hD2 hDX ⟨n', e'⟩ hys hel kp
    refine ⟨rfl, D, ys.toList, n', P', hD, by simpa using e', by simpa using hys, fun i hi => ?_, ⟨S', kp⟩⟩
    obtain ⟨v, e, hv⟩ := hel i (by simpa using hi)
    exact ⟨v, by simpa using e, hv⟩

theorem law2 (hh : A.handled = none) (T : Gl mg mb ad base) (P : Pt h₀ base outer L s.heap l) {fa : Addr} {vs : List Value} {n : Nat} {Fs : List Fld} (hl : Loc l "drawn" = some (.ref fa)) (hLf : L < fa)
    (hfa : s.heap.get? fa = some { cls := .type "list", data := .seq vs.toArray n }) (hF : Flds L s.heap vs Fs) (hz : vs.length ≤ 100) (hw : ∀ i, i < Fs.length → (Fs.getD i fld0).w.length ≤ 100) :
    wpAny (model pw w) A (exec (stIn 25 2) (envQ L f cd)) (fun fl s' => fl = .next ∧ ∃ da ds n', Pt h₀ base outer L s'.heap (putv "plain" (.ref da) l) ∧ L < da ∧ s'.heap.get? da = some { cls := .type "list", data := .seq ds.toArray n' } ∧
      IntsAre ds (nInts (Fs.map Fld.width)) ∧ Go L s s') E s := by
  refine wpAny_mono (compF hh P (fun i v => ∃ t, v = .int ((Fs.getD i fld0).width : Nat) t) hLf hfa hF (by omega) (fun h => ldL P hl h) fun C i s₂ m E' t1 t2 t3 t4 hi hLC P₂ n₂ e1 e2 e3 e4 => ?_) (fun fl s' h => ?_) fun _ _ z => z
  · have hwi := hw i (by rw [← hF.len]; exact hi)
    refine wpAny_BinOp <| wpAny_BinOp <| ldC n₂ e1 <| Call_ <| ldCB (T.keeps P₂.fr.keep) Boot.«len» <| cB <| aC <| ldC n₂ e2 <| args_nil <| len_str (by rw [str_len]; omega) <| add_int <| ldC (s := { s₂ with toks := _ }) n₂ e3 <| add_int ?_
    rw [str_len, show (((Fs.getD i fld0).a : Int) + ((Fs.getD i fld0).w.length : Nat) + ((Fs.getD i fld0).b : Nat)) = ((Fs.getD i fld0).width : Nat) by unfold Fld.width; rw [Int.natCast_add, Int.natCast_add]]
    exact ⟨⟨_, rfl⟩, _, rfl⟩
  · obtain ⟨rfl, da, ds, n', P', hL, e, hlen, hel, G⟩ := h
    refine ⟨rfl, da, ds, n', P', hL, e, intsAre_of _ _ (by simp [nInts, hlen, hF.len]) fun i hi => ?_, G⟩
    obtain ⟨v, e, t, rfl⟩ := hel i (by omega)
    refine ⟨t, ?_⟩
    have : i < Fs.length := by rw [← hF.len]; omega
    rw [e]; simp [nInts, List.getD, this]
end
end Mine
end

-- part L7
section
open PySem PySem.W PySem.Calls PyProof.Rows PySem.SeqAt
set_option Elab.async false
set_option maxRecDepth 100000
namespace Mine

/-- the list, its last k times more -/
def exts {α : Type} (xs : List α) (k : Nat) : List α := xs ++ (List.replicate k (xs.drop (xs.length - 1))).flatten
theorem sum_nInts (dr : List Nat) : (nInts dr).sum = (dr.sum : Nat) := by
  unfold nInts
  induction dr with
  | nil => rfl
  | cons a r ih => simp only [List.map_cons, List.sum_cons, ih, Int.natCast_add]
theorem IntsAre.reps {vs : List Value} {ns : List Int} (h : IntsAre vs ns) : ∀ k, IntsAre (List.replicate k vs).flatten (List.replicate k ns).flatten
  | 0 => .nil
  | k + 1 => by rw [List.replicate_succ, List.replicate_succ, List.flatten_cons, List.flatten_cons]; exact h.append (IntsAre.reps h k)
theorem IntsAre.exts {vs : List Value} {ns : List Int} (h : IntsAre vs ns) (k : Nat) : IntsAre (exts vs k) (exts ns k) := by
  unfold Mine.exts
  rw [show vs.length = ns.length from h.length]
  exact h.append (IntsAre.reps (h.drop _) k)
theorem exts_map {α β : Type} (g : α → β) (xs : List α) (k : Nat) : exts (xs.map g) k = (exts xs k).map g := by
  unfold exts
  simp [List.map_append, List.map_flatten, List.map_replicate, List.map_drop]

theorem Flds.append {L : Addr} {h : Heap} {vs ws : List Value} {Fs Gs : List Fld} (x : Flds L h vs Fs) (y : Flds L h ws Gs) : Flds L h (vs ++ ws) (Fs ++ Gs) := by
  refine ⟨by rw [List.length_append, List.length_append, x.len, y.len], fun i hi => ?_⟩
  rcases Nat.lt_or_ge i vs.length with q | q
  · obtain ⟨t, e, r⟩ := x.each i q
    refine ⟨t, by rw [List.getElem?_append_left q]; exact e, ?_⟩
    have : (Fs ++ Gs).getD i fld0 = Fs.getD i fld0 := by
      simp only [List.getD]; rw [List.getElem?_append_left (by rw [← x.len]; exact q)]
    rw [this]; exact r
  · rw [List.length_append] at hi
    obtain ⟨t, e, r⟩ := y.each (i - vs.length) (by omega)
    refine ⟨t, by rw [List.getElem?_append_right q]; exact e, ?_⟩
    have : (Fs ++ Gs).getD i fld0 = Gs.getD (i - vs.length) fld0 := by
      simp only [List.getD]; rw [List.getElem?_append_right (by rw [← x.len]; exact q), x.len]
    rw [this]; exact r
theorem Flds.drop {L : Addr} {h : Heap} {vs : List Value} {Fs : List Fld} (x : Flds L h vs Fs) (k : Nat) : Flds L h (vs.drop k) (Fs.drop k) := by
  refine ⟨by rw [List.length_drop, List.length_drop, x.len], fun i hi => ?_⟩
  rw [List.length_drop] at hi
  obtain ⟨t, e, r⟩ := x.each (k + i) (by omega)
  refine ⟨t, by rw [List.getElem?_drop]; exact e, ?_⟩
  have : (Fs.drop k).getD i fld0 = Fs.getD (k + i) fld0 := by simp only [List.getD]; rw [List.getElem?_drop]
  rw [this]; exact r
theorem Flds.nil {L : Addr} {h : Heap} : Flds L h [] [] := ⟨rfl, fun i hi => by simp at hi⟩
theorem Flds.reps {L : Addr} {h : Heap} {vs : List Value} {Fs : List Fld} (x : Flds L h vs Fs) : ∀ k, Flds L h (List.replicate k vs).flatten (List.replicate k Fs).flatten
  | 0 => .nil
  | k + 1 => by rw [List.replicate_succ, List.replicate_succ, List.flatten_cons, List.flatten_cons]; exact x.append (x.reps k)
theorem Flds.exts {L : Addr} {h : Heap} {vs : List Value} {Fs : List Fld} (x : Flds L h vs Fs) (k : Nat) : Flds L h (exts vs k) (exts Fs k) := by
  unfold Mine.exts
  rw [x.len]
  exact x.append ((x.drop _).reps k)

def moreOf (S : Nat) : Nat := if S % 3 = 0 then 1 + S % 4 else 0
def restOf (S : Nat) : List Nat := if S % 3 = 0 then [] else [32, 32, 122, 32]
theorem moreOf_le (S : Nat) : moreOf S ≤ 4 := by unfold moreOf; split <;> omega

theorem strsAre_of : ∀ (vs : List Value) (ds : List (List Nat)), vs.length = ds.length → (∀ i, i < vs.length → ∃ t, vs[i]? = some (.str ⟨(ds.getD i []).toArray⟩ t)) → StrsAre vs ds
  | [], [], _, _ => ⟨[], rfl, rfl⟩
  | [], _ :: _, h, _ => by simp at h
  | _ :: _, [], h, _ => by simp at h
  | v :: vs, d :: ds, h, hk => by
    obtain ⟨t, e⟩ := hk 0 (by simp)
    simp at e
    subst e
    obtain ⟨ts, e1, e2⟩ := strsAre_of vs ds (by simpa using h) fun i hi => by
      obtain ⟨t, e⟩ := hk (i + 1) (by simp; omega)
      exact ⟨t, by simpa using e⟩
    exact ⟨(⟨d.toArray⟩, t) :: ts, by rw [e1]; rfl, by rw [List.map_cons, e2]; rfl⟩
theorem StrsAre.reverse {vs : List Value} {ds : List (List Nat)} (h : StrsAre vs ds) : StrsAre vs.reverse ds.reverse := by
  obtain ⟨ts, rfl, e⟩ := h
  exact ⟨ts.reverse, by simp [strValues], by rw [List.map_reverse, e, List.map_reverse]⟩

section
variable {w : World} {A : Around} {E : Value → Shared → Prop} {s : Shared} {h₀ base : Heap} {outer : List Env} {mg mb : Str → Option Value} {ad : Ads} {L f : Addr} {cd : Value} {l : List (Str × Value)}

theorem law3 (hh : A.handled = none) (T : Gl mg mb ad base) (P : Pt h₀ base outer L s.heap l) {da : Addr} {ds : List Value} {n : Nat} {dr : List Nat} (hl : Loc l "draws" = some (.ref da)) (hda : s.heap.get? da = some { cls := .type "list", data := .seq ds.toArray n }) (hi : IntsAre ds (nInts dr)) :
    wpAny (model pw w) A (exec (stIn 25 3) (envQ L f cd)) (fun fl s' => fl = .next ∧ ∃ t, Pt h₀ base outer L s'.heap (putv "kind" (.int (dr.sum % 3 : Nat) t) l) ∧ Go L s s') E s := by
  refine wpAny_Assign_Name <| wpAny_BinOp <| Call_ <| ldB T P boot_sum <| cB <| aC <| ldL P hl <| args_nil <| sumL hh hda hi fun s₁ t₁ S₁ k₁ => ?_
  rw [sum_nInts]
  refine wpAny_Constant_int <| modN (by decide) fun t => stL (s := { s₁ with toks := _ }) (P.grow k₁) fun s₂ S₂ b₂ P₂ => ⟨rfl, t, P₂, (Go.grow S₁ k₁).trans (Go.same S₂ b₂)⟩

theorem law4 (hh : A.handled = none) (T : Gl mg mb ad base) (P : Pt h₀ base outer L s.heap l) {da : Addr} {ds : List Value} {n : Nat} {dr : List Nat} {tk : Tok} (hl : Loc l "draws" = some (.ref da)) (hk : Loc l "kind" = some (.int (dr.sum % 3 : Nat) tk)) (hda : s.heap.get? da = some { cls := .type "list", data := .seq ds.toArray n }) (hi : IntsAre ds (nInts dr)) :
    wpAny (model pw w) A (exec (stIn 25 4) (envQ L f cd)) (fun fl s' => fl = .next ∧ ∃ t, Pt h₀ base outer L s'.heap (putv "more" (.int (moreOf dr.sum : Nat) t) l) ∧ Go L s s') E s := by
  refine wpAny_Assign_Name <| IfExp_ <| wpAny_isTrue_Compare1 <| ldL P hk <| wpAny_Constant_int <| eq_int <| wpAny_truthy_bool ?_
  by_cases q : dr.sum % 3 = 0
  · rw [if_pos (by simp; omega)]
    refine wpAny_BinOp <| wpAny_Constant_int <| wpAny_BinOp <| Call_ <| ldB (s := { s with toks := _ }) T P boot_sum <| cB <| aC <| ldL (s := { s with toks := _ }) P hl <| args_nil <| sumL (s := { s with toks := _ }) hh hda hi fun s₁ t₁ S₁ k₁ => ?_
    rw [sum_nInts]
    refine wpAny_Constant_int <| modN (by decide) fun t => add_int ?_
    rw [show ((1 : Int) + (dr.sum % 4 : Nat)) = (moreOf dr.sum : Nat) by unfold moreOf; rw [if_pos q]; omega]
    refine stL (s := { s₁ with toks := _ }) (P.grow k₁) fun s₂ S₂ b₂ P₂ => ⟨rfl, _, P₂, ?_⟩
    exact (Go.grow S₁ k₁).trans (Go.same S₂ b₂)
  · rw [if_neg (by simp; omega)]
    refine wpAny_Constant_int ?_
    rw [show (0 : Int) = (moreOf dr.sum : Nat) by unfold moreOf; rw [if_neg q]; rfl]
    refine stL (s := { s with toks := _ }) P fun s₂ S₂ b₂ P₂ => ⟨rfl, _, P₂, ?_⟩
    exact Go.same S₂ b₂

theorem ext_last {α : Type} (xs : List α) (h : 1 ≤ xs.length) : (xs.take (hiOf none xs.length)).drop (loOf (some (-1 : Int)) xs.length) = xs.drop (xs.length - 1) := by
  rw [show hiOf none xs.length = xs.length from rfl, List.take_length, show loOf (some (-1 : Int)) xs.length = xs.length - 1 by simp only [loOf, clipN]; omega]

/-- src + src[-1:] * more -/
theorem ext_expr {src : Str} {p2 p3 p4 p5 p6 p7 p8 p9 p10 : Pos} {k1 : Nat} (P : Pt h₀ base outer L s.heap l) {da : Addr} {ds : List Value} {n k : Nat} {t : Tok} (hl : Loc l src = some (.ref da)) (hk : Loc l "more" = some (.int k t)) (hkk : k ≤ 4)
    (hda : s.heap.get? da = some { cls := .type "list", data := .seq ds.toArray n }) (h1 : 1 ≤ ds.length) (h2 : ds.length ≤ 100)
    (hs : (envQ L f cd).kindOf src = some .local := by rfl) (hd : (src == ("__debug__" : Str)) = false := by decide) :
    wpAny (model pw w) A (eval (.BinOp (.Name src p2) .Add (.BinOp (.Subscript (.Name src p3) (.Slice (some (.UnaryOp .USub (.Constant (.int 1) k1 p4) p5)) none none p6) p7) .Mult (.Name "more" p8) p9) p10) (envQ L f cd))
      (fun v s' => ∃ ea, v = .ref ea ∧ Pt h₀ base outer L s'.heap l ∧ L < ea ∧ s'.heap.get? ea = some { cls := .type "list", data := .seq (exts ds k).toArray } ∧ Go L s s') E s := by
  refine wpAny_BinOp <| ldL (hl := hs) (hd := hd) P hl <| wpAny_BinOp <| Subscript_ <| ldL (hl := hs) (hd := hd) P hl <| wpAny_Slice <| evalPart_some_step <| UnaryOp_ <| wpAny_Constant_int <| neg_int <| evalPart_none_step <| evalPart_none_step <|
    sliceV (s := { s with toks := _ }) ⟨_, hda, rfl, _, rfl⟩ (by omega) (.int _ _) .none .none (by simp) (pick_cut ds (some (-1)) none) fun s₁ la S₁ k₁ hla e₁ => ?_
  rw [ext_last ds h1] at e₁
  have P₁ := P.grow k₁
  have hlen : (ds.drop (ds.length - 1)).length = 1 := by rw [List.length_drop]; omega
  refine ldL P₁ hk <| mulL e₁ (by rw [hlen]; omega) (by omega) fun s₂ lb S₂ k₂ hlb e₂ => ?_
  have hfl : (List.replicate k (ds.drop (ds.length - 1))).flatten.length = k := by
    rw [List.length_flatten]; simp [hlen]
  refine addL (k₂ _ _ (k₁ _ _ hda)) e₂ (by simp only [List.size_toArray]; rw [hfl]; omega) fun s₃ lc S₃ k₃ hlc e₃ => ?_
  have P₃ := (P₁.grow k₂).grow k₃
  refine ⟨lc, rfl, P₃, Nat.lt_of_lt_of_le (P₁.grow k₂).lt_size hlc, ?_, ((Go.grow S₁ k₁).trans (Go.grow S₂ k₂)).trans (Go.grow S₃ k₃)⟩
  rw [e₃]
  unfold exts
  simp

theorem law5 (P : Pt h₀ base outer L s.heap l) {da : Addr} {ds : List Value} {n k : Nat} {t : Tok} (hl : Loc l "drawn" = some (.ref da)) (hk : Loc l "more" = some (.int k t)) (hkk : k ≤ 4)
    (hda : s.heap.get? da = some { cls := .type "list", data := .seq ds.toArray n }) (h1 : 1 ≤ ds.length) (h2 : ds.length ≤ 100) :
    wpAny (model pw w) A (exec (stIn 25 5) (envQ L f cd)) (fun fl s' => fl = .next ∧ ∃ ea, Pt h₀ base outer L s'.heap (putv "fields" (.ref ea) l) ∧ L < ea ∧ s'.heap.get? ea = some { cls := .type "list", data := .seq (exts ds k).toArray } ∧ Go L s s') E s := by
  refine wpAny_Assign_Name <| wpAny_mono (ext_expr P hl hk hkk hda h1 h2) (fun v s₁ h => ?_) fun _ _ z => z
  obtain ⟨ea, rfl, P₁, hL, e, G⟩ := h
  exact stL P₁ fun s₂ S₂ b₂ P₂ => ⟨rfl, ea, P₂, hL, (b₂.2 ea (Nat.ne_of_gt hL)).trans e, G.trans (Go.same S₂ b₂)⟩
theorem law6 (P : Pt h₀ base outer L s.heap l) {da : Addr} {ds : List Value} {n k : Nat} {t : Tok} (hl : Loc l "plain" = some (.ref da)) (hk : Loc l "more" = some (.int k t)) (hkk : k ≤ 4)
    (hda : s.heap.get? da = some { cls := .type "list", data := .seq ds.toArray n }) (h1 : 1 ≤ ds.length) (h2 : ds.length ≤ 100) :
    wpAny (model pw w) A (exec (stIn 25 6) (envQ L f cd)) (fun fl s' => fl = .next ∧ ∃ ea, Pt h₀ base outer L s'.heap (putv "widths" (.ref ea) l) ∧ L < ea ∧ s'.heap.get? ea = some { cls := .type "list", data := .seq (exts ds k).toArray } ∧ Go L s s') E s := by
  refine wpAny_Assign_Name <| wpAny_mono (ext_expr P hl hk hkk hda h1 h2) (fun v s₁ h => ?_) fun _ _ z => z
  obtain ⟨ea, rfl, P₁, hL, e, G⟩ := h
  exact stL P₁ fun s₂ S₂ b₂ P₂ => ⟨rfl, ea, P₂, hL, (b₂.2 ea (Nat.ne_of_gt hL)).trans e, G.trans (Go.same S₂ b₂)⟩

theorem law7 (P : Pt h₀ base outer L s.heap l) {S : Nat} {tk : Tok} (hk : Loc l "kind" = some (.int (S % 3 : Nat) tk)) :
    wpAny (model pw w) A (exec (stIn 25 7) (envQ L f cd)) (fun fl s' => fl = .next ∧ ∃ t, Pt h₀ base outer L s'.heap (putv "rest" (.str ⟨(restOf S).toArray⟩ t) l) ∧ Go L s s') E s := by
  refine wpAny_Assign_Name <| IfExp_ <| wpAny_isTrue_Compare1 <| ldL P hk <| wpAny_Constant_int <| ne_int <| wpAny_truthy_bool ?_
  by_cases q : S % 3 = 0
  · rw [if_neg (by simp; omega)]
    refine Constant_str ?_
    rw [show Str.ofString "" = ⟨(restOf S).toArray⟩ by unfold restOf; rw [if_pos q]; decide]
    exact stL (s := { s with toks := _ }) P fun s₂ S₂ b₂ P₂ => ⟨rfl, _, P₂, Go.same S₂ b₂⟩
  · rw [if_pos (by simp; omega)]
    refine Constant_str ?_
    rw [show Str.ofString "  z " = ⟨(restOf S).toArray⟩ by unfold restOf; rw [if_neg q]; decide]
    exact stL (s := { s with toks := _ }) P fun s₂ S₂ b₂ P₂ => ⟨rfl, _, P₂, Go.same S₂ b₂⟩

theorem law8 (hh : A.handled = none) (P : Pt h₀ base outer L s.heap l) {fa : Addr} {vs : List Value} {n : Nat} {Fs : List Fld} (hl : Loc l "fields" = some (.ref fa)) (hLf : L < fa)
    (hfa : s.heap.get? fa = some { cls := .type "list", data := .seq vs.toArray n }) (hF : Flds L s.heap vs Fs) (hz : vs.length ≤ 100) (hw : ∀ i, i < Fs.length → (Fs.getD i fld0).a ≤ 100 ∧ (Fs.getD i fld0).w.length ≤ 100 ∧ (Fs.getD i fld0).b ≤ 100) :
    wpAny (model pw w) A (exec (stIn 25 8) (envQ L f cd)) (fun fl s' => fl = .next ∧ ∃ da ds n', Pt h₀ base outer L s'.heap (putv "due" (.ref da) l) ∧ L < da ∧ s'.heap.get? da = some { cls := .type "list", data := .seq ds.toArray n' } ∧
      StrsAre ds (Fs.map Fld.due) ∧ Go L s s') E s := by
  refine wpAny_mono (compF hh P (fun i v => ∃ t, v = .str ⟨(Fs.getD i fld0).due.toArray⟩ t) hLf hfa hF (by omega) (fun h => ldL P hl h) fun C i s₂ m E' t1 t2 t3 t4 hi hLC P₂ n₂ e1 e2 e3 e4 => ?_) (fun fl s' h => ?_) fun _ _ z => z
  · obtain ⟨h1, h2, h3⟩ := hw i (by rw [← hF.len]; exact hi)
    refine wpAny_BinOp <| wpAny_BinOp <| wpAny_BinOp <| Constant_str <| ldC (s := { s₂ with toks := _ }) n₂ e1 <| mulB (by omega) (by omega) fun _ _ => ldC (s := { s₂ with toks := _ }) n₂ e2 <| addS (by simp only [blanks, List.length_replicate, List.length_append]; omega) fun _ _ =>
      wpAny_BinOp <| Constant_str <| ldC (s := { s₂ with toks := _ }) n₂ e3 <| mulB (by omega) (by omega) fun _ _ => addS (by simp only [blanks, List.length_replicate, List.length_append]; omega) fun _ _ => ?_
    rw [Int.toNat_natCast, Int.toNat_natCast]
    exact ⟨⟨_, rfl⟩, _, rfl⟩
  · obtain ⟨rfl, da, ds, n', P', hL, e, hlen, hel, G⟩ := h
    refine ⟨rfl, da, ds, n', P', hL, e, strsAre_of _ _ (by simp [hlen, hF.len]) fun i hi => ?_, G⟩
    obtain ⟨v, e, t, rfl⟩ := hel i (by omega)
    refine ⟨t, ?_⟩
    have : i < Fs.length := by rw [← hF.len]; omega
    rw [e]; simp [List.getD, this]

theorem law9 (P : Pt h₀ base outer L s.heap l) {da : Addr} {vs : List Value} {n : Nat} {ds : List (List Nat)} {rest : List Nat} {t : Tok} (hr : Loc l "rest" = some (.str ⟨rest.toArray⟩ t)) (hl : Loc l "due" = some (.ref da))
    (hda : s.heap.get? da = some { cls := .type "list", data := .seq vs.toArray n }) (hv : StrsAre vs ds) (hb : ∀ d ∈ ds, d.length ≤ 300) (hn : ds.length ≤ 100) (hrl : rest.length ≤ 10) (hfl : ds.reverse.flatten.length ≤ 30000) :
    wpAny (model pw w) A (exec (stIn 25 9) (envQ L f cd)) (fun fl s' => fl = .next ∧ ∃ t, Pt h₀ base outer L s'.heap (putv "line" (.str ⟨(leftOf rest ds 0).toArray⟩ t) l) ∧ Go L s s') E s := by
  have hvl : vs.length = ds.length := by
    obtain ⟨ts, rfl, e⟩ := hv
    have := congrArg List.length e
    simpa [strValues] using this
  refine wpAny_Assign_Name <| wpAny_BinOp <| ldL P hr <| MethodCall_ <| Constant_str <| GM.join <| cM <| aC <| Subscript_ <| ldL (s := { s with toks := _ }) P hl <| wpAny_Slice <| evalPart_none_step <| evalPart_none_step <| evalPart_some_step <| UnaryOp_ <| wpAny_Constant_int <| neg_int <|
    sliceW (s := { s with toks := _ }) ⟨_, hda, rfl, _, rfl⟩ (by omega) .none .none (.int _ _) (by simp) (pick_rev vs) fun s₁ la S₁ k₁ hla e₁ => args_nil <| joinL e₁ hv.reverse (fun d hd => ?_) (by simp; omega) fun t' k => addS (by omega) fun t'' k' => ?_
  · have := hb d (List.mem_reverse.mp hd); omega
  · exact stL (s := { s₁ with toks := _ }) (P.grow k₁) fun s₂ S₂ b₂ P₂ => ⟨rfl, _, P₂, (Go.grow S₁ k₁).trans (Go.same S₂ b₂)⟩

def post5 : List Nat := [39, 32, 39, 120, 39]
theorem law10 (P : Pt h₀ base outer L s.heap l) {line : List Nat} {t : Tok} (hl : Loc l "line" = some (.str ⟨line.toArray⟩ t)) (hn : line.length ≤ 30000) :
    wpAny (model pw w) A (exec (stIn 25 10) (envQ L f cd)) (fun fl s' => fl = .next ∧ ∃ t, Pt h₀ base outer L s'.heap (putv "text" (.str ⟨(pre9 ++ line ++ post5).toArray⟩ t) l) ∧ Go L s s') E s := by
  refine wpAny_Assign_Name <| wpAny_BinOp <| wpAny_BinOp <| Constant_str <| ldL (s := { s with toks := _ }) P hl ?_
  rw [show Str.ofString "# it's\n\t'" = ⟨pre9.toArray⟩ by decide]
  refine addS (by simp [pre9]; omega) fun t' k => Constant_str ?_
  rw [show Str.ofString "' 'x'" = ⟨post5.toArray⟩ by decide]
  refine addS (by simp [pre9, post5]; omega) fun t'' k' => ?_
  exact stL (s := { s with toks := _ }) P fun s₂ S₂ b₂ P₂ => ⟨rfl, _, P₂, Go.same S₂ b₂⟩
end
end Mine
end

-- part L8
section
open PySem PySem.W PySem.Calls PyProof.Rows PySem.SeqAt
set_option Elab.async false
set_option maxRecDepth 100000
namespace Mine

def okC (c : Nat) : Prop := c ≠ 39 ∧ ¬ badC c

section
variable {w : World} {A : Around} {E : Value → Shared → Prop} {s : Shared} {h₀ base : Heap} {outer : List Env} {mg mb : Str → Option Value} {ad : Ads} {L f : Addr} {cd : Value} {l : List (Str × Value)}

theorem Go.back {s' : Shared} (P : Pt h₀ base outer L s.heap l) (S : Same s s') (st : (inner s.heap L outer).StaysIn s'.heap) : Go L s s' := ⟨S, fun b o hb e => st b o (P.inner_get hb e)⟩

theorem law11 (hA : A.frames = some outer) (T : Gl mg mb ad base) (G : Gs w mg base) (R : Room (A.deeper (envQ L f cd)) 5) (P : Pt h₀ base outer L s.heap l) {line : List Nat} {tl tt : Tok} (hl : Loc l "line" = some (.str ⟨line.toArray⟩ tl))
    (ht : Loc l "text" = some (.str ⟨(pre9 ++ line ++ post5).toArray⟩ tt)) (hn : line.length ≤ 3000) (hok : ∀ c ∈ line, okC c) :
    wpAny (model pw w) (A.deeper (envQ L f cd)) (exec (stIn 25 11) (envQ L f cd)) (fun fl s' => fl = .next ∧ Pt h₀ base outer L s'.heap l ∧ Go L s s') E s := by
  obtain ⟨osw, _, _, _, hosw, hdsw, _⟩ := T.sw.there
  obtain ⟨opl, _, _, _, hopl, hdpl, _⟩ := T.pl.there
  have hxl : (⟨(pre9 ++ line ++ post5).toArray⟩ : Str).length = 9 + line.length + 5 := by rw [str_len]; simp [pre9, post5]; omega
  have hp9 : pre9.length = 9 := rfl
  have hg : (⟨(pre9 ++ line ++ post5).toArray⟩ : Str).cps.toList = pre9 ++ line ++ post5 := by simp
  refine wpAny_If <| isTrue_or <| wpAny_isTrue_Compare1 <| Call_ <| ldG T P T.sw.glob <| cD hdsw <| aC <| ldL P ht <| aC <| wpAny_Constant_int <| args_nil ⟨P.fr.keep _ _ hosw, wpAny_call <|
    codeAny_mono (ws_spec (by exact P.bl (env := envQ L f cd) hA rfl) (T.keeps P.base_in) (G.keeps P.base_in) (R.less (by omega)) _ tt _ (by omega) fun j hj => ?_) fun r s₁ h₁ => ?_⟩
  · rw [hg, List.append_assoc, List.getElem?_append_left (by omega)]
  obtain ⟨v1, rfl, st₁, up₁, S₁, t1, rfl⟩ := h₁
  have P₁ := P.back st₁ up₁
  refine wpAny_Constant_int <| ne_int <| wpAny_truthy_bool ?_
  rw [if_neg (by decide)]
  refine isTrue_or <| wpAny_isTrue_Compare1 <| Call_ <| ldG (s := { s₁ with toks := _ }) T P₁ T.pl.glob <| cD hdpl <| aC <| ldL (s := { s₁ with toks := _ }) P₁ ht <| aC <| wpAny_Constant_int <| args_nil ⟨P₁.fr.keep _ _ hopl, wpAny_call <|
    codeAny_mono (lit_spec (by exact P₁.bl (env := envQ L f cd) hA rfl) (T.keeps P₁.base_in) (G.keeps P₁.base_in) (R.less (by omega)) _ tt _ 8 (9 + line.length) (by omega) (by omega) ?_ fun j h1 h2 d hd => ?_) fun r s₂ h₂ => ?_⟩
  · rw [hg, List.getElem?_append_right (by simp [hp9])]
    simp [hp9, post5]
  · rw [hg, List.append_assoc, List.getElem?_append_right (by omega), List.getElem?_append_left (by omega)] at hd
    exact hok d (List.mem_of_getElem? hd)
  obtain ⟨v2, rfl, st₂, up₂, S₂, a2, t2, t3, rfl, ha2, e₂⟩ := h₂
  have hline : ((((⟨(pre9 ++ line ++ post5).toArray⟩ : Str).cps.toList).take (9 + line.length)).drop (8 + 1)) = line := by
    rw [hg, List.take_append_of_le_length (by simp [hp9]), List.take_of_length_le (by simp [hp9])]
    exact List.drop_left' rfl
  rw [hline] at e₂
  have P₂ : Pt h₀ base outer L s₂.heap l := P₁.back st₂ up₂
  refine Tuple_ <| aC <| wpAny_BinOp <| Call_ <| ldB T P₂ Boot.«len» <| cB <| aC <| ldL P₂ hl <| args_nil <| len_str (by rw [str_len]; omega) <| wpAny_Constant_int <| add_int <| aC <| ldL (s := { s₂ with toks := _ }) P₂ hl <| args_nil <| newT (by simp) fun s₃ b3 S₃ k₃ hb3 e₃ => ?_
  have P₃ := P₂.grow k₃
  refine cmp_ofNotEq <| RcNeAt.tuples (e := fun _ => true) ⟨_, k₃ _ _ e₂, rfl, _, rfl⟩ ⟨_, e₃, rfl, _, rfl⟩ ?_ ?_ _ _ _ _ <| wpAny_truthy_bool ?_
  · exact Nat.lt_of_le_of_lt (Nat.le_add_right _ _) R.units
  · intro j h1 h2
    have hj : j = 0 ∨ j = 1 := by simp at h1; omega
    rcases hj with rfl | rfl
    · show EqAt _ s₃ (.int ((9 + line.length + 1 : Nat) : Int) t2) (.int (((⟨line.toArray⟩ : Str).length : Int) + 10) _) true
      rw [str_len, show ((9 + line.length + 1 : Nat) : Int) = (line.length : Int) + 10 by omega]
      exact eqInt _ _ _ _ _
    · show EqAt _ s₃ (.str ⟨line.toArray⟩ t3) (.str ⟨line.toArray⟩ tl) true
      have := EqAt.str_str (A := (A.deeper (envQ L f cd)).in1) (s := s₃) ⟨line.toArray⟩ t3 ⟨line.toArray⟩ tl
      rwa [beq_self_eq_true] at this
  · rw [if_neg (by show ¬ ((!((List.range (min 2 2)).all (fun _ => true) && (2 == 2))) = true); decide)]
    refine isTrue_or_nil ?_
    rw [if_neg (by decide)]
    refine wpAny_execs_nil ⟨rfl, P₃, ?_⟩
    exact ((Go.back P S₁ st₁).trans (Go.back (s := s₁) P₁ S₂ st₂)).trans (Go.grow (s := s₂) S₃ k₃)
end
end Mine
end

-- part L9
section
open PySem PySem.W PySem.Calls PyProof.Rows PySem.SeqAt
set_option Elab.async false
set_option maxRecDepth 100000
namespace Mine

theorem flatten_rep_one {α : Type} (x : α) : ∀ k, (List.replicate k [x]).flatten = List.replicate k x
  | 0 => rfl
  | k + 1 => by rw [List.replicate_succ, List.flatten_cons, flatten_rep_one x k]; rfl
theorem exts_last {α : Type} (xs : List α) (k : Nat) (d : α) (h : 1 ≤ xs.length) : exts xs k = xs ++ List.replicate k (xs.getD (xs.length - 1) d) := by
  unfold exts
  have : xs.drop (xs.length - 1) = [xs.getD (xs.length - 1) d] := by
    rw [List.drop_eq_getElem_cons (by omega), show xs.length - 1 + 1 = xs.length by omega, List.drop_length]
    simp [List.getD, show xs.length - 1 < xs.length by omega]
  rw [this, flatten_rep_one]
theorem exts_length {α : Type} (xs : List α) (k : Nat) (h : 1 ≤ xs.length) : (exts xs k).length = xs.length + k := by
  have d := xs[0]'(by omega)
  rw [exts_last xs k d h]; simp
theorem exts_get {α : Type} (xs : List α) (k : Nat) (d : α) (h : 1 ≤ xs.length) (j : Nat) (hj : j < xs.length + k) : (exts xs k).getD j d = xs.getD (min j (xs.length - 1)) d := by
  rw [exts_last xs k d h]
  rcases Nat.lt_or_ge j xs.length with q | q
  · rw [Nat.min_eq_left (by omega)]
    simp only [List.getD]
    rw [List.getElem?_append_left q]
  · rw [Nat.min_eq_right (by omega)]
    simp only [List.getD]
    rw [List.getElem?_append_right q, List.getElem?_replicate, if_pos (by omega)]
    rfl

section
variable {w : World} {A : Around} {E : Value → Shared → Prop} {s : Shared} {h₀ base : Heap} {outer : List Env} {mg mb : Str → Option Value} {ad : Ads} {L f : Addr} {cd : Value} {l : List (Str × Value)} {name : Str} {scope : Scope} {a : Addr}

theorem unpack2 {x1 x2 : Str} {p1 p2 tp : Pos} {kk : _} {t : Addr} {v1 v2 : Value} {Q : Unit → Shared → Prop} (hh : A.handled = none) (P : Pt h₀ base outer L s.heap l) (ht : IsTup s.heap t #[v1, v2])
    (h : ∀ s', Same s s' → Heap.ExtBut L s.heap s'.heap → Pt h₀ base outer L s'.heap (putv x2 v2 (putv x1 v1 l)) → Q () s')
    (hk : scope.kind = .function := by rfl) (h1 : (envOf name scope L a cd).kindOf x1 = some .local := by rfl) (h2 : (envOf name scope L a cd).kindOf x2 = some .local := by rfl) :
    wpAny (model pw w) A (assign (.Tuple [.Name x1 p1, .Name x2 p2] kk tp) (envOf name scope L a cd) (.ref t)) Q E s := by
  refine assign_Tuple_tuple hh ht rfl rfl fun h' he => ?_
  have k' : s.heap.StaysIn h' := fun b o q => he b o (Nat.ne_of_lt (Heap.lt_size q)) q
  have P' := P.grow k'
  refine assignInOrder_cons (assign_Name (stL (s := { s with heap := h' }) P' (fun s₁ S₁ b₁ P₁ => ?_) hk h1))
  refine assignInOrder_cons (assign_Name (stL P₁ (fun s₂ S₂ b₂ P₂ => ?_) hk h2))
  refine assignInOrder_nil (h s₂ ?_ (fun b o hb q => ?_) P₂)
  · exact Same.trans S₁ S₂
  · exact b₂.extBut b o hb (b₁.extBut b o hb (k' b o q))

def nOf (Fs : List Fld) (S : Nat) : Nat := if S % 3 = 0 then Fs.length + moreOf S + 1 else Fs.length

theorem law12 (hA : A.frames = some outer) (T : Gl mg mb ad base) (G : Gs w mg base) (R : Room (A.deeper (envQ L f cd)) 5) (P : Pt h₀ base outer L s.heap l) {S : Nat} {Fs : List Fld} {tl tk : Tok} {pa : Addr} {ps : List Value} {n : Nat}
    (hl : Loc l "line" = some (.str ⟨(leftOf (restOf S) ((exts Fs (moreOf S)).map Fld.due) 0).toArray⟩ tl)) (hp : Loc l "plain" = some (.ref pa)) (hLp : L < pa) (hpa : s.heap.get? pa = some { cls := .type "list", data := .seq ps.toArray n })
    (hi : IntsAre ps (nInts (Fs.map Fld.width))) (hk : Loc l "kind" = some (.int (S % 3 : Nat) tk)) (hF1 : 1 ≤ Fs.length) (hF2 : Fs.length ≤ 30) (hw : ∀ i, i < Fs.length → 1 ≤ (Fs.getD i fld0).width ∧ (Fs.getD i fld0).width ≤ 50)
    (hn : (leftOf (restOf S) ((exts Fs (moreOf S)).map Fld.due) 0).length ≤ 3000) :
    wpAny (model pw w) (A.deeper (envQ L f cd)) (exec (stIn 25 12) (envQ L f cd)) (fun fl s' => fl = .next ∧ ∃ ta pc tv nt pv np gs, Pt h₀ base outer L s'.heap (putv "pieces" (.ref pc) (putv "told" (.ref ta) l)) ∧ L < ta ∧ L < pc ∧
      s'.heap.get? ta = some { cls := .type "list", data := .seq tv nt } ∧ AllV (IntV (Fs.map Fld.width)) tv (Fs.length + moreOf S) ∧ s'.heap.get? pc = some { cls := .type "list", data := .seq pv np } ∧
      (∀ i, i < Fs.length + moreOf S → ∃ v, pv[i]? = some v ∧ StrV ((exts Fs (moreOf S)).map Fld.due) i v) ∧ s'.os = s.os ∧ s'.gens = s.gens.push gs ∧ gs.bare = true ∧ (∀ b o, L < b → s.heap.get? b = some o → s'.heap.get? b = some o)) E s := by
  obtain ⟨olc, _, _, _, holc, hdlc, _⟩ := T.lc.there
  have hpl : ps.length = Fs.length := by rw [hi.length]; simp [nInts]
  have hm := moreOf_le S
  refine Assign_Tuple <| Call_ <| ldG T P T.lc.glob <| cD hdlc <| aC <| ldL P hl <| aC <| wpAny_BinOp <| ldL P hp <| Subscript_ <| List_ <| aC <| List_ <| aC <| wpAny_Constant_int <| args_nil <| newL (by simp) fun s₁ a0 S₁ k₁ h0 e₁ => ?_
  refine aC <| List_ <| aC <| wpAny_Constant_int <| aC <| wpAny_Constant_int <| args_nil <| newL (by simp) fun s₂ a1 S₂ k₂ h1 e₂ => ?_
  refine aC <| List_ <| args_nil <| newL (by simp) fun s₃ a2 S₃ k₃ h2 e₃ => args_nil <| newL (by simp) fun s₄ a3 S₄ k₄ h3 e₄ => ?_
  have k04 : s.heap.StaysIn s₄.heap := fun b o e => k₄ _ _ (k₃ _ _ (k₂ _ _ (k₁ _ _ e)))
  have P₄ := P.grow k04
  have hS₄ : Same s s₄ := ((S₁.trans S₂).trans S₃).trans S₄
  have g0 := k₄ _ _ (k₃ _ _ (k₂ _ _ e₁))
  have g1 := k₄ _ _ (k₃ _ _ e₂)
  have g2 := k₄ _ _ e₃
  -- the tail by the kind
  obtain ⟨ra, tv, htv, hra, hgra, hE⟩ : ∃ ra tv, tv.length ≤ 2 ∧ (#[Value.ref a0, Value.ref a1, Value.ref a2] : Array Value)[S % 3]? = some (.ref ra) ∧ s₄.heap.get? ra = some { cls := .type "list", data := .seq tv.toArray } ∧
      Ends (decide (S % 3 = 0)) (nOf Fs S) (Fs.map Fld.width) (ps ++ tv).toArray := by
    have hlt : (ps ++ []).length = Fs.length := by simp [hpl]
    have : S % 3 = 0 ∨ S % 3 = 1 ∨ S % 3 = 2 := by omega
    rcases this with q | q | q
    · refine ⟨a0, _, ?_, by rw [q]; rfl, g0, .inr (.inr ⟨by simp [q], ?_, by rw [List.length_map]; omega, ?_⟩)⟩
      · simp
      · unfold nOf; rw [if_pos q]; simp; omega
      · exact ⟨_, by rw [List.length_map, ← hpl, List.getElem?_toArray, List.getElem?_append_right (Nat.le_refl _), Nat.sub_self]; rfl⟩
    · refine ⟨a1, _, ?_, by rw [q]; rfl, g1, .inr (.inl ⟨by simp [q], ?_, ?_⟩)⟩
      · simp
      · unfold nOf; rw [if_neg (by omega)]; simp
      · exact ⟨_, by rw [List.length_map, ← hpl, List.getElem?_toArray, List.getElem?_append_right (Nat.le_refl _), Nat.sub_self]; rfl⟩
    · refine ⟨a2, _, ?_, by rw [q]; rfl, g2, .inl ⟨by simp [q], ?_, ?_⟩⟩
      · simp
      · unfold nOf; rw [if_neg (by omega)]; simp
      · rw [List.length_map, ← hpl]; simp
  refine ldL P₄ hk <| itemL (k := S % 3) ⟨_, e₄, rfl, _, rfl⟩ (Nat.lt_trans (Nat.mod_lt _ (by decide)) (by decide)) hra ?_
  refine addL (k04 _ _ hpa) hgra (by simp; omega) fun s₅ la S₅ k₅ hla e₅ => args_nil ?_
  have P₅ := P₄.grow k₅
  have hLla : L < la := Nat.lt_of_lt_of_le P₄.lt_size hla
  have eit : ps.toArray ++ tv.toArray = (ps ++ tv).toArray := by simp
  rw [eit] at e₅
  have hgv : ∀ j, j < Fs.length + moreOf S → (((exts Fs (moreOf S)).map Fld.due).getD j []).length = gVal (Fs.map Fld.width) j ∧ 1 ≤ gVal (Fs.map Fld.width) j := by
    intro j hj
    have hxl := exts_length Fs (moreOf S) hF1
    have e1 : ((exts Fs (moreOf S)).map Fld.due).getD j [] = ((exts Fs (moreOf S)).getD j fld0).due := by
      have : j < (exts Fs (moreOf S)).length := by omega
      simp [List.getD, this]
    have hmin : min j (Fs.length - 1) < Fs.length := by omega
    have e2 : gVal (Fs.map Fld.width) j = (Fs.getD (min j (Fs.length - 1)) fld0).width := by
      unfold gVal
      rw [List.length_map]
      simp [List.getD, hmin]
    rw [e1, due_length, exts_get Fs (moreOf S) fld0 hF1 j hj, e2]
    exact ⟨rfl, (hw _ hmin).1⟩
  have hdl : ((exts Fs (moreOf S)).map Fld.due).length = Fs.length + moreOf S := by rw [List.length_map, exts_length Fs _ hF1]
  refine ⟨P₅.fr.keep _ _ holc, wpAny_call <| codeAny_mono (cut_spec (by exact P₅.bl (env := envQ L f cd) hA rfl) (T.keeps P₅.base_in) (G.keeps P₅.base_in) (R.less (by omega)) _ tl la (ps ++ tv).toArray (Fs.map Fld.width) (decide (S % 3 = 0)) (nOf Fs S)
    ((exts Fs (moreOf S)).map Fld.due) (restOf S) (by rw [str_len]; omega) ⟨_, P₅.inner_get hLla e₅, rfl, _, rfl⟩ (fun i hiw => ?_) (fun i hiw => ?_) hE (by simp) (by rw [hdl]; omega) (fun j hj => hgv j (by rw [← hdl]; exact hj)) ?_) fun r s₆ h₆ => ?_⟩
  · rw [List.length_map] at hiw
    obtain ⟨t, e⟩ := ints_at hi i (by omega)
    refine ⟨t, ?_⟩
    have e2 : (nInts (Fs.map Fld.width)).getD i 0 = ((Fs.map Fld.width).getD i 0 : Nat) := by simp [nInts, List.getD, hiw]
    rw [e2] at e
    rw [← e]
    simp [List.getElem?_append_left (show i < ps.length by omega)]
  · rw [List.length_map] at hiw
    have e2 : (Fs.map Fld.width).getD i 0 = (Fs.getD i fld0).width := by simp [List.getD, hiw]
    rw [e2]
    have := hw i hiw
    omega
  · by_cases q : S % 3 = 0
    · refine .inr ⟨by simp [q], by unfold restOf; rw [if_pos q], ?_⟩
      rw [hdl]; unfold nOf; rw [if_pos q]
    · refine .inl ⟨by simp [q], ?_⟩
      rw [hdl]; unfold nOf moreOf; rw [if_neg q, if_neg q]; rfl
  · obtain ⟨v, rfl, st, up, os₆, ⟨gs, hgs, hb⟩, tt, ta, pc, tvv, pv, nt, rfl, htt, hta, hpc, e6, e7, TV, ⟨np, e8⟩, PV⟩ := h₆
    have P₆ := P₅.back st up
    have hLs : ∀ {b : Addr}, s₅.heap.objs.size ≤ b → L < b := fun h => Nat.lt_of_lt_of_le P₅.lt_size h
    refine unpack2 R.handled P₆ ⟨_, e6, rfl, _, rfl⟩ fun s₇ S₇ b₇ P₇ => ?_
    rw [hdl] at TV PV
    refine ⟨rfl, ta, pc, tvv, nt, pv, np, gs, P₇, hLs hta, hLs hpc, b₇ _ _ (Nat.ne_of_gt (hLs hta)) e7, TV, b₇ _ _ (Nat.ne_of_gt (hLs hpc)) e8, PV, S₇.2.trans (os₆.trans (S₅.2.trans hS₄.2)), ?_, hb, fun b o hb e => ?_⟩
    · rw [S₇.1, hgs, S₅.1, hS₄.1]
    · exact b₇ _ _ (Nat.ne_of_gt hb) (st b o (P₅.inner_get hb (k₅ _ _ (k04 _ _ e))))
end
end Mine
end

-- part L10
section
open PySem PySem.W PySem.Calls PyProof.Rows PySem.SeqAt
set_option Elab.async false
set_option maxRecDepth 100000
namespace Mine

theorem sum_take_le (ns : List Nat) (k : Nat) : (ns.take k).sum ≤ ns.sum := by
  induction ns generalizing k with
  | nil => simp
  | cons a r ih =>
    cases k with
    | zero => simp
    | succ k => simp only [List.take_succ_cons, List.sum_cons]; have := ih k; omega
theorem sum_append' (a b : List Nat) : (a ++ b).sum = a.sum + b.sum := by
  induction a with
  | nil => simp
  | cons x r ih => simp only [List.cons_append, List.sum_cons, ih]; omega
theorem line_length (rest : List Nat) (Fs : List Fld) : (leftOf rest (Fs.map Fld.due) 0).length = rest.length + (Fs.map Fld.width).sum := by
  unfold leftOf
  rw [List.drop_zero, List.length_append]
  congr 1
  induction Fs with
  | nil => rfl
  | cons F r ih =>
    simp only [List.map_cons, List.reverse_cons, List.flatten_append, List.length_append, List.sum_cons, ih]
    simp [due_length]
    omega

section
variable {w : World} {A : Around} {E : Value → Shared → Prop} {s : Shared} {h₀ base : Heap} {outer : List Env} {mg mb : Str → Option Value} {ad : Ads} {L f : Addr} {cd : Value} {l : List (Str × Value)}

theorem law13 (P : Pt h₀ base outer L s.heap l) (hu : A.units < cLine) {ta wa : Addr} {tv : Array Value} {nt nw : Nat} {wv : List Value} {Fs : List Fld} {k : Nat} (hF1 : 1 ≤ Fs.length) (ht : Loc l "told" = some (.ref ta)) (hw : Loc l "widths" = some (.ref wa))
    (e1 : s.heap.get? ta = some { cls := .type "list", data := .seq tv nt }) (TV : AllV (IntV (Fs.map Fld.width)) tv (Fs.length + k)) (e2 : s.heap.get? wa = some { cls := .type "list", data := .seq wv.toArray nw }) (hi : IntsAre wv (nInts ((exts Fs k).map Fld.width))) :
    wpAny (model pw w) A (exec (stIn 25 13) (envQ L f cd)) (fun fl s' => fl = .next ∧ Pt h₀ base outer L s'.heap l ∧ Go L s s') E s := by
  have hwl : wv.length = Fs.length + k := by rw [hi.length]; simp [nInts, exts_length Fs k hF1]
  refine wpAny_If <| wpAny_isTrue_Compare1 <| ldL P ht <| ldL P hw <| cmp_ofNotEq <| RcNeAt.lists (e := fun _ => true) ⟨_, e1, rfl, _, rfl⟩ ⟨_, e2, rfl, _, rfl⟩ (by rw [TV.1]; simp [hwl]) hu (fun j h1 h2 => ?_) _ _ _ _ <| wpAny_truthy_bool ?_
  · rw [TV.1] at h1
    obtain ⟨v, ev, t, rfl⟩ := TV.2 j h1
    obtain ⟨u, eu⟩ := ints_at hi j (by omega)
    have q1 : tv[j] = .int (gVal (Fs.map Fld.width) j : Nat) t := by
      have := Array.getElem?_eq_getElem (xs := tv) (i := j) (by rw [TV.1]; exact h1)
      rw [this] at ev; exact Option.some.inj ev
    have q2 : wv.toArray[j] = .int ((nInts ((exts Fs k).map Fld.width)).getD j 0) u := by
      have := List.getElem?_eq_getElem (l := wv) (i := j) (by omega)
      rw [this] at eu; simpa using Option.some.inj eu
    have q3 : (nInts ((exts Fs k).map Fld.width)).getD j 0 = (gVal (Fs.map Fld.width) j : Nat) := by
      have hj : j < (exts Fs k).length := by rw [exts_length Fs k hF1]; exact h1
      have hmin : min j (Fs.length - 1) < Fs.length := by omega
      have a1 : (nInts ((exts Fs k).map Fld.width)).getD j 0 = (((exts Fs k).getD j fld0).width : Nat) := by simp [nInts, List.getD, hj]
      have a2 : gVal (Fs.map Fld.width) j = (Fs.getD (min j (Fs.length - 1)) fld0).width := by
        unfold gVal
        rw [List.length_map]
        simp [List.getD, hmin]
      rw [a1, a2, exts_get Fs k fld0 hF1 j h1]
    rw [q1, q2, q3]
    exact eqInt _ _ _ _ _
  · rw [if_neg (by simp)]
    exact wpAny_execs_nil ⟨rfl, P, Go.refl _ _⟩

theorem rangeIt1 {E : Value → Shared → Prop} {b : Nat} {u : Tok} {Q : Value → Shared → Prop} (hb : b ≤ 1000000)
    (h : ∀ s' it, Same s s' → s.heap.StaysIn s'.heap → s.heap.objs.size < it → IsRangeIter s'.heap it (0 : Int) (b : Int) 1 → Q (.ref it) s') :
    wpAny (model pw w) A (call (.type "range") [.int b u]) (fun x s₁ => wpAny (model pw w) A (pyIter x) Q E s₁) E s := by
  have hsz : Builtin.Range.rangeSize (0 : Int) (b : Int) 1 = (b : Int) := by rw [rangeSize_one]; split <;> omega
  refine call_range_1 (wpAny_pyIter_range (IsRange.new _ _ _ _ _ _ _) (small_one (by omega) (by omega) (by omega) (by omega)) ?_)
  rw [hsz]
  refine h _ _ ⟨rfl, rfl⟩ (fun b o e => Heap.get?_push_of_some _ (Heap.get?_push_of_some _ e)) ?_ (Heap.get?_push_size _ rfl)
  rw [Heap.size_push]
  exact Nat.lt_succ_self _

theorem law14 (hA : A.frames = some outer) (T : Gl mg mb ad base) (R : Room (A.deeper (envQ L f cd)) 5) (P : Pt h₀ base outer L s.heap l) {Fs : List Fld} {rest : List Nat} {tt tl : Tok} {fa wa pc : Addr} {fv wv : List Value} {pv : Array Value} {nf nw np : Nat}
    (ht : Loc l "text" = some (.str ⟨(pre9 ++ leftOf rest (Fs.map Fld.due) 0 ++ post5).toArray⟩ tt)) (hl : Loc l "line" = some (.str ⟨(leftOf rest (Fs.map Fld.due) 0).toArray⟩ tl)) (hf : Loc l "fields" = some (.ref fa)) (hw : Loc l "widths" = some (.ref wa)) (hp : Loc l "pieces" = some (.ref pc))
    (hLf : L < fa) (hLw : L < wa) (hLp : L < pc) (ef : s.heap.get? fa = some { cls := .type "list", data := .seq fv.toArray nf }) (ew : s.heap.get? wa = some { cls := .type "list", data := .seq wv.toArray nw }) (ep : s.heap.get? pc = some { cls := .type "list", data := .seq pv np })
    (hF : Flds L s.heap fv Fs) (hi : IntsAre wv (nInts (Fs.map Fld.width))) (hPV : ∀ i, i < Fs.length → ∃ v, pv[i]? = some v ∧ StrV (Fs.map Fld.due) i v) (hn : (leftOf rest (Fs.map Fld.due) 0).length ≤ 3000) (hz : Fs.length ≤ 100)
    (hok : ∀ i, i < Fs.length → (Fs.getD i fld0).Ok ∧ (Fs.getD i fld0).Good) :
    wpAny (model pw w) (A.deeper (envQ L f cd)) (exec (stIn 25 14) (envQ L f cd)) (fun fl s' => fl = .next ∧ ∃ l', Pt h₀ base outer L s'.heap l' ∧ Go L s s') E s := by
  obtain ⟨ola, _, _, _, hola, hdla, _⟩ := T.la.there
  have hfl : fv.length = Fs.length := hF.len
  have hwl : wv.length = Fs.length := by rw [hi.length]; simp [nInts]
  have hll := line_length rest Fs
  refine wpAny_For <| Call_ <| ldB T P Boot.«range» <| cT <| aC <| Call_ <| ldB T P Boot.«len» <| cB <| aC <| ldL P hf <| args_nil <| len_list (items := fv.toArray) ⟨_, ef, rfl, _, rfl⟩ (by simp; omega) <| args_nil ?_
  rw [show fv.toArray.size = Fs.length by simp [hfl]]
  refine rangeIt1 (by omega) fun s₁ it S₁ k₁ hit I₁ => ?_
  have hLit : L < it := Nat.lt_trans P.lt_size hit
  refine codeAny_forLoop (I := fun n s' => ∃ (j : Nat) (l' : List (Str × Value)), Pt h₀ base outer L s'.heap l' ∧ (∀ (x : Str), x ≠ "j" → Loc l' x = Loc l x) ∧ Go L s s' ∧ IsRangeIter s'.heap it (j : Int) ((Fs.length - j : Nat) : Int) 1 ∧ j + n = Fs.length)
    (fun n s₂ hI => ?_) Fs.length ⟨0, l, P.grow k₁, fun _ _ => rfl, Go.grow S₁ k₁, I₁, by omega⟩
  obtain ⟨j, l', P₂, hl', G₂, I₂, hj⟩ := hI
  by_cases hlt : j < Fs.length
  · refine wpAny_pyNext_range_item I₂ (by omega) fun h₃ I₃ b₃ => ?_
    have P₃ : Pt h₀ base outer L h₃ l' := P₂.upd hLit b₃.extBut
    refine assign_Name <| stL (s := { s₂ with heap := h₃, toks := _ }) P₃ fun s₄ S₄ b₄ P₄ => ?_
    have kk : ∀ b o, L < b → b ≠ it → s.heap.get? b = some o → s₄.heap.get? b = some o := fun b o hb hne e => (b₄.2 b (Nat.ne_of_gt hb)).trans ((b₃.2 b hne).trans (G₂.2 b o hb e))
    have hne : ∀ {b : Addr} {o : Obj}, s.heap.get? b = some o → b ≠ it := fun e => Nat.ne_of_lt (Nat.lt_trans (Heap.lt_size e) hit)
    have G₄ : Go L s s₄ := ⟨G₂.1.trans S₄, fun b o hb e => kk b o hb (hne e) e⟩
    have I₄ : IsRangeIter s₄.heap it ((j : Int) + 1) (((Fs.length - j : Nat) : Int) - 1) 1 := (b₄.2 it (Nat.ne_of_gt hLit)).trans I₃
    have lk : ∀ (x : Str) v, x ≠ "j" → Loc l x = some v → Loc (putv "j" (.int j s₂.toks) l') x = some v := fun x v hx e => Loc_ne (hl' x hx ▸ e) hx
    have hjj := Loc_eq "j" (.int j s₂.toks) l'
    have ht4 := lk _ _ (by decide) ht
    have hl4 := lk _ _ (by decide) hl
    have hf4 := lk _ _ (by decide) hf
    have hw4 := lk _ _ (by decide) hw
    have hp4 := lk _ _ (by decide) hp
    have ef4 := G₄.2 _ _ hLf ef
    have ew4 := G₄.2 _ _ hLw ew
    have ep4 := G₄.2 _ _ hLp ep
    have hF4 := hF.go G₄
    refine wpAny_execs_cons <| wpAny_If <| isTrue_not <| isTrue_plain <| Call_ <| ldG T P₄ T.la.glob <| cD hdla <| aC <| ldL P₄ ht4 <| aC <| wpAny_BinOp <| wpAny_BinOp <| wpAny_Constant_int <| Call_ <| ldB (s := { s₄ with toks := _ }) T P₄ Boot.«len» <| cB <| aC <| ldL (s := { s₄ with toks := _ }) P₄ hl4 <| args_nil <| len_str (by rw [str_len]; omega) <| add_int <|
      Call_ <| ldB (s := { s₄ with toks := _ }) T P₄ boot_sum <| cB <| aC <| Subscript_ <| ldL (s := { s₄ with toks := _ }) P₄ hw4 <| wpAny_Slice <| evalPart_none_step <| evalPart_some_step <| wpAny_BinOp <| ldL (s := { s₄ with toks := _ }) P₄ hjj <| wpAny_Constant_int <| add_int <| evalPart_none_step <|
      sliceV (s := { s₄ with toks := _ }) ⟨_, ew4, rfl, _, rfl⟩ (by omega) .none (.int _ _) .none (by simp) (pick_cut wv none (some ((j : Int) + 1))) fun s₅ sa S₅ k₅ hsa e₅ => ?_
    have hcut : (wv.take (hiOf (some ((j : Int) + 1)) wv.length)).drop (loOf none wv.length) = wv.take (j + 1) := by
      rw [show loOf none wv.length = 0 from rfl, List.drop_zero, show hiOf (some ((j : Int) + 1)) wv.length = j + 1 by simp only [hiOf, clipN]; omega]
    rw [hcut] at e₅
    have P₅ := P₄.grow k₅
    have hi5 : IntsAre (wv.take (j + 1)) (nInts ((Fs.map Fld.width).take (j + 1))) := by
      have := hi.take (j + 1)
      simpa [nInts, List.map_take] using this
    refine args_nil <| sumL R.handled e₅ hi5 fun s₆ t6 S₆ k₆ => ?_
    have P₆ := P₅.grow k₆
    rw [sum_nInts, str_len]
    have hsum := sum_take_le (Fs.map Fld.width) (j + 1)
    refine sub_int ?_
    rw [show ((9 : Int) + ((leftOf rest (Fs.map Fld.due) 0).length : Nat) - (((Fs.map Fld.width).take (j + 1)).sum : Nat)) = ((9 + (leftOf rest (Fs.map Fld.due) 0).length - ((Fs.map Fld.width).take (j + 1)).sum : Nat) : Int) by omega]
    obtain ⟨pvj, epv, tp, rfl⟩ := hPV j hlt
    obtain ⟨tf, eft, hLt, hFt⟩ := hF4.each j (by omega)
    have ep6 := k₆ _ _ (k₅ _ _ ep4)
    have ef6 := k₆ _ _ (k₅ _ _ ef4)
    refine aC <| Subscript_ <| ldL (s := { s₆ with toks := _ }) P₆ hp4 <| ldL (s := { s₆ with toks := _ }) P₆ hjj <| itemL (s := { s₆ with toks := _ }) (k := j) ⟨_, ep6, rfl, _, rfl⟩ (by omega) epv <|
      aC <| Subscript_ <| ldL (s := { s₆ with toks := _ }) P₆ hf4 <| ldL (s := { s₆ with toks := _ }) P₆ hjj <| itemL (s := { s₆ with toks := _ }) (k := j) ⟨_, ef6, rfl, _, rfl⟩ (by omega) (by simpa using eft) <| args_nil ⟨P₆.fr.keep _ _ hola, ?_⟩
    have edue : (Fs.map Fld.due).getD j [] = (Fs.getD j fld0).due := by simp [List.getD, hlt]
    rw [edue]
    have hF6 : FldAt (inner s₆.heap L outer) tf (Fs.getD j fld0) := (hFt.at (fun o e => k₆ _ _ (k₅ _ _ e))).at fun o e => P₆.inner_get hLt e
    obtain ⟨hO, hG⟩ := hok j hlt
    have hxl : (⟨(pre9 ++ leftOf rest (Fs.map Fld.due) 0 ++ post5).toArray⟩ : Str).length = 9 + (leftOf rest (Fs.map Fld.due) 0).length + 5 := by rw [str_len]; simp [pre9, post5]; omega
    refine wpAny_call <| codeAny_mono (asked_spec (by exact P₆.bl (env := envQ L f cd) hA rfl) (T.keeps P₆.base_in) R (Fs.getD j fld0) hO hG _ tt _ _ tp (by omega) (by rw [hxl]; omega) tf hF6) fun r s₇ h₇ => ?_
    obtain ⟨v7, rfl, st₇, up₇, S₇, rfl⟩ := h₇
    have P₇ := P₆.back st₇ up₇
    refine wpAny_truthy_bool ?_
    rw [if_neg (by decide)]
    have k7 : ∀ b o, L < b → s₄.heap.get? b = some o → s₇.heap.get? b = some o := fun b o hb e => st₇ b o (P₆.inner_get hb (k₆ _ _ (k₅ _ _ e)))
    refine wpAny_execs_nil <| wpAny_execs_nil ⟨n - 1, by omega, j + 1, _, P₇, fun x hx => ?_, ?_, ?_, by omega⟩
    · rw [Loc_putv]; simp only [if_neg hx]; exact hl' x hx
    · exact ⟨G₄.1.trans ((S₅.trans S₆).trans S₇), fun b o hb e => k7 b o hb (G₄.2 b o hb e)⟩
    · rw [show ((j + 1 : Nat) : Int) = (j : Int) + 1 by omega, show ((Fs.length - (j + 1) : Nat) : Int) = ((Fs.length - j : Nat) : Int) - 1 by omega]
      obtain ⟨o, eo⟩ : ∃ o, s₄.heap.get? it = some o := ⟨_, I₄⟩
      exact (k7 _ _ hLit I₄)
  · refine wpAny_pyNext_range_end R.handled I₂ (by omega) fun h₃ b₃ => ?_
    refine wpAny_execs_nil ⟨rfl, l', P₂.upd hLit b₃, ⟨G₂.1, fun b o hb e => ?_⟩⟩
    exact b₃ b o (Nat.ne_of_lt (Nat.lt_trans (Heap.lt_size e) hit)) (G₂.2 b o hb e)
end
end Mine
end

-- part L11
section
open PySem PySem.W PySem.Calls PyProof.Rows PySem.SeqAt
set_option Elab.async false
set_option maxRecDepth 100000
namespace Mine

/-- what each field of the law has -/
structure Fld.Fine (F : Fld) : Prop where
  a : F.a ≤ 3
  b : F.b ≤ 3
  w : F.w.length ≤ 3
  lo : -1 ≤ F.k
  hi : F.k ≤ 7
  one : 1 ≤ F.width
  good : F.Good
  chars : ∀ c ∈ F.w, okC c
theorem word_cases (x : Nat) : words.getD (x % 5) [] = [] ∧ x % 5 = 0 ∨ words.getD (x % 5) [] = [97] ∨ words.getD (x % 5) [] = [98, 32, 99] ∨ words.getD (x % 5) [] = [9] ∨ words.getD (x % 5) [] = [233] := by
  have : x % 5 = 0 ∨ x % 5 = 1 ∨ x % 5 = 2 ∨ x % 5 = 3 ∨ x % 5 = 4 := by omega
  rcases this with q | q | q | q | q <;> rw [q] <;> simp [words]
theorem okC_of {c : Nat} (h : c = 32 ∨ c = 97 ∨ c = 98 ∨ c = 99 ∨ c = 9 ∨ c = 233 ∨ c = 122) : okC c := by
  unfold okC badC
  omega
theorem fOf_fine (x : Nat) : (fOf x).Fine := by
  have ha : (fOf x).a ≤ 3 := by
    have h4 : x / 5 % 4 < 4 := Nat.mod_lt _ (by decide)
    show (if x % 5 = 0 ∧ x / 5 % 4 + x / 20 % 4 = 0 then 1 else x / 5 % 4) ≤ 3
    split <;> omega
  have hb : (fOf x).b ≤ 3 := by show x / 20 % 4 ≤ 3; omega
  have hwd : (fOf x).w = words.getD (x % 5) [] := rfl
  have hc := word_cases x
  refine ⟨ha, hb, ?_, ?_, ?_, ?_, ?_, ?_⟩
  · rw [hwd]; rcases hc with ⟨h, _⟩ | h | h | h | h <;> rw [h] <;> simp
  · show (-1 : Int) ≤ ((x / 80 % 9 : Nat) : Int) - 1; omega
  · show ((x / 80 % 9 : Nat) : Int) - 1 ≤ 7; omega
  · show 1 ≤ (fOf x).a + (fOf x).w.length + (fOf x).b
    rw [hwd]
    rcases hc with ⟨h, h5⟩ | h | h | h | h
    · rw [h]
      show 1 ≤ (if x % 5 = 0 ∧ x / 5 % 4 + x / 20 % 4 = 0 then 1 else x / 5 % 4) + ([] : List Nat).length + x / 20 % 4
      by_cases q : x / 5 % 4 + x / 20 % 4 = 0
      · rw [if_pos ⟨h5, q⟩]; omega
      · rw [if_neg (fun z => q z.2)]; simp; omega
    all_goals rw [h]; simp; omega
  · unfold Fld.Good
    rw [hwd]
    rcases hc with ⟨h, _⟩ | h | h | h | h
    · exact .inl h
    all_goals (refine .inr ?_; rw [h]; decide)
  · intro c hm
    rw [hwd] at hm
    rcases hc with ⟨h, _⟩ | h | h | h | h <;> rw [h] at hm <;> simp at hm <;> apply okC_of <;> omega
theorem Fld.Fine.ok {F : Fld} (h : F.Fine) : F.Ok := ⟨by have := h.a; omega, by have := h.b; omega, by have := h.w; omega, by have := h.lo; omega, by have := h.hi; omega⟩
theorem Fld.Fine.width_le {F : Fld} (h : F.Fine) : F.width ≤ 9 := by unfold Fld.width; have := h.a; have := h.b; have := h.w; omega
theorem Fld.Fine.due_ok {F : Fld} (h : F.Fine) : ∀ c ∈ F.due, okC c := by
  intro c hc
  unfold Fld.due blanks at hc
  simp only [List.mem_append, List.mem_replicate] at hc
  rcases hc with (⟨_, rfl⟩ | hc) | ⟨_, rfl⟩
  · exact okC_of (.inl rfl)
  · exact h.chars c hc
  · exact okC_of (.inl rfl)

def Fins (Fs : List Fld) : Prop := ∀ F ∈ Fs, F.Fine
theorem Fins.at {Fs : List Fld} (h : Fins Fs) (i : Nat) (hi : i < Fs.length) : (Fs.getD i fld0).Fine := by
  have : Fs.getD i fld0 = Fs[i] := by simp [List.getD, hi]
  rw [this]; exact h _ (List.getElem_mem hi)
theorem Fins.exts {Fs : List Fld} (h : Fins Fs) (k : Nat) : Fins (exts Fs k) := by
  intro F hF
  unfold Mine.exts at hF
  rcases List.mem_append.mp hF with q | q
  · exact h F q
  · obtain ⟨l, hl, hFl⟩ := List.mem_flatten.mp q
    rw [List.eq_of_mem_replicate hl] at hFl
    exact h F (List.mem_of_mem_drop hFl)
theorem fins_law (dr : List Nat) : Fins ((xsOf dr).map fOf) := by
  intro F hF
  obtain ⟨x, _, rfl⟩ := List.mem_map.mp hF
  exact fOf_fine x
theorem sum_width_le {Fs : List Fld} (h : Fins Fs) : (Fs.map Fld.width).sum ≤ Fs.length * 9 := by
  induction Fs with
  | nil => simp
  | cons F r ih =>
    simp only [List.map_cons, List.sum_cons, List.length_cons]
    have h1 := (h F (.head _)).width_le
    have h2 := ih fun G hG => h G (.tail _ hG)
    omega
theorem rest_le (S : Nat) : (restOf S).length ≤ 4 := by unfold restOf; split <;> simp
theorem line_ok {Fs : List Fld} (h : Fins Fs) (S : Nat) : ∀ c ∈ leftOf (restOf S) (Fs.map Fld.due) 0, okC c := by
  intro c hc
  unfold leftOf at hc
  rw [List.drop_zero] at hc
  rcases List.mem_append.mp hc with q | q
  · unfold restOf at q
    split at q
    · cases q
    · simp at q; apply okC_of; omega
  · obtain ⟨d, hd, hcd⟩ := List.mem_flatten.mp q
    obtain ⟨F, hF, rfl⟩ := List.mem_map.mp (List.mem_reverse.mp hd)
    exact (h F hF).due_ok c hcd

section
variable {w : World} {A : Around} {s : Shared} {base : Heap} {outer : List Env} {mg mb : Str → Option Value} {ad : Ads}

set_option maxHeartbeats 4000000 in
theorem law_spec (B : Bl A base outer s.heap) (T : Gl mg mb ad base) (G : Gs w mg base) (R : Room A 6) (H : FnIn mg base "law" 25 ad.lw) (sa : Addr) (vs : List Value) (nums : List Int) (hsa : base.IsList sa vs.toArray) (hi : IntsAre vs nums) (hn : nums.length ≤ 63) :
    codeAny (model pw w) A (.call (.ref ad.lw) ⟨[.ref sa], []⟩) (RetG base s (fun v _ => v = .bool true)) s := by
  refine callF (binds := [("script", .ref sa)]) B T.lim H (by have := R.depth; omega) (fun _ _ _ => rfl) (by rfl) fun s₁ L cd S₁ P₁ => ?_
  have hA := B.stack
  have R₁ := R.deeper (envQ L ad.lw cd)
  have hh := R₁.handled
  have hu : (A.deeper (envQ L ad.lw cd)).units < cLine := Nat.lt_of_le_of_lt (Nat.le_add_right _ _) R₁.units
  generalize hdr : (nums.map fun n => (n % 1000000).toNat) = dr
  have hdrl : dr.length ≤ 63 := by rw [← hdr]; simpa using hn
  have hdri : (nums.map fun n => n % 1000000) = nInts dr := by
    rw [← hdr]
    unfold nInts
    rw [List.map_map]
    apply List.map_congr_left
    intro n _
    have := Int.emod_nonneg n (show (1000000 : Int) ≠ 0 by decide)
    simp only [Function.comp]
    omega
  generalize hFs : (xsOf dr).map fOf = Fs
  have hFin : Fins Fs := hFs ▸ fins_law dr
  have hFl : Fs.length = (xsOf dr).length := by rw [← hFs, List.length_map]
  have hxl : 4 ≤ (xsOf dr).length ∧ (xsOf dr).length ≤ 12 := by simp [xsOf]; omega
  generalize hSd : dr.sum = S
  have hmo := moreOf_le S
  have hF1 : 1 ≤ Fs.length := by omega
  have hEl := exts_length Fs (moreOf S) hF1
  have hFE := hFin.exts (moreOf S)
  have hll := line_length (restOf S) (exts Fs (moreOf S))
  have hsw := sum_width_le hFE
  have hre := rest_le S
  have hlineL : (leftOf (restOf S) ((exts Fs (moreOf S)).map Fld.due) 0).length ≤ 148 := by omega
  refine wpAny_execs_cons <| wpAny_mono (law0 hh P₁ rfl hsa hi hn) (fun fl s₂ h₂ => ?_) fun _ _ z => z
  obtain ⟨rfl, da, ds, nd, P₂, hLd, ed₂, hid, G₂⟩ := h₂
  rw [hdri] at hid
  refine wpAny_execs_cons <| wpAny_mono (law1 hA T R₁ P₂ (Loc_eq _ _ _) hLd ed₂ hid hdrl) (fun fl s₃ h₃ => ?_) fun _ _ z => z
  obtain ⟨rfl, fa, fv, nf, P₃, hLf, ef₃, hF₃, G₃⟩ := h₃
  rw [hFs] at hF₃
  have hfl : fv.length = Fs.length := hF₃.len
  have ed₃ := G₃.2 _ _ hLd ed₂
  refine wpAny_execs_cons <| wpAny_mono (law2 hh T P₃ (Loc_eq _ _ _) hLf ef₃ hF₃ (by omega) (fun i h => by have := (hFin.at i h).w; omega)) (fun fl s₄ h₄ => ?_) fun _ _ z => z
  obtain ⟨rfl, pa, pv, np, P₄, hLp, ep₄, hip, G₄⟩ := h₄
  have hpl : pv.length = Fs.length := by rw [hip.length]; simp [nInts]
  have ed₄ := G₄.2 _ _ hLd ed₃
  have ef₄ := G₄.2 _ _ hLf ef₃
  refine wpAny_execs_cons <| wpAny_mono (law3 hh T P₄ (Loc_ne (Loc_ne (Loc_eq _ _ _))) ed₄ hid) (fun fl s₅ h₅ => ?_) fun _ _ z => z
  obtain ⟨rfl, tk, P₅, G₅⟩ := h₅
  rw [hSd] at P₅
  have ed₅ := G₅.2 _ _ hLd ed₄
  have ef₅ := G₅.2 _ _ hLf ef₄
  have ep₅ := G₅.2 _ _ hLp ep₄
  refine wpAny_execs_cons <| wpAny_mono (law4 (dr := dr) hh T P₅ (Loc_ne (Loc_ne (Loc_ne (Loc_eq _ _ _)))) (by rw [hSd]; exact Loc_eq _ _ _) ed₅ hid) (fun fl s₆ h₆ => ?_) fun _ _ z => z
  obtain ⟨rfl, tm, P₆, G₆⟩ := h₆
  rw [hSd] at P₆
  have ef₆ := G₆.2 _ _ hLf ef₅
  have ep₆ := G₆.2 _ _ hLp ep₅
  refine wpAny_execs_cons <| wpAny_mono (law5 P₆ (Loc_ne (Loc_ne (Loc_ne (Loc_eq _ _ _)))) (Loc_eq _ _ _) hmo ef₆ (by omega) (by omega)) (fun fl s₇ h₇ => ?_) fun _ _ z => z
  obtain ⟨rfl, ea, P₇, hLe, ee₇, G₇⟩ := h₇
  have ep₇ := G₇.2 _ _ hLp ep₆
  have G37 : Go L s₃ s₇ := ((G₄.trans G₅).trans G₆).trans G₇
  have hE₇ := (hF₃.go G37).exts (moreOf S)
  refine wpAny_execs_cons <| wpAny_mono (law6 P₇ (Loc_ne (Loc_ne (Loc_ne (Loc_eq _ _ _)))) (Loc_ne (Loc_eq _ _ _)) hmo ep₇ (by omega) (by omega)) (fun fl s₈ h₈ => ?_) fun _ _ z => z
  obtain ⟨rfl, wa, P₈, hLw, ew₈, G₈⟩ := h₈
  have ep₈ := G₈.2 _ _ hLp ep₇
  have ee₈ := G₈.2 _ _ hLe ee₇
  have hwi : IntsAre (exts pv (moreOf S)) (nInts ((exts Fs (moreOf S)).map Fld.width)) := by
    have := IntsAre.exts hip (moreOf S)
    rwa [show exts (nInts (Fs.map Fld.width)) (moreOf S) = nInts ((exts Fs (moreOf S)).map Fld.width) by unfold nInts; rw [exts_map, exts_map]] at this
  refine wpAny_execs_cons <| wpAny_mono (law7 (S := S) P₈ (Loc_ne (Loc_ne (Loc_ne (Loc_eq _ _ _))))) (fun fl s₉ h₉ => ?_) fun _ _ z => z
  obtain ⟨rfl, tr, P₉, G₉⟩ := h₉
  have ee₉ := G₉.2 _ _ hLe ee₈
  have hE₉ := (hE₇.go G₈).go G₉
  have hel : (exts fv (moreOf S)).length = Fs.length + moreOf S := by rw [hE₇.len, hEl]
  refine wpAny_execs_cons <| wpAny_mono (law8 hh P₉ (Loc_ne (Loc_ne (Loc_eq _ _ _))) hLe ee₉ hE₉ (by omega) (fun i h => ?_)) (fun fl s₁₀ h₁₀ => ?_) fun _ _ z => z
  · have := hFE.at i h
    exact ⟨by have := this.a; omega, by have := this.w; omega, by have := this.b; omega⟩
  obtain ⟨rfl, ua, uv, nu, P₁₀, hLu, eu₁₀, hus, G₁₀⟩ := h₁₀
  refine wpAny_execs_cons <| wpAny_mono (law9 P₁₀ (Loc_ne (Loc_eq _ _ _)) (Loc_eq _ _ _) eu₁₀ hus (fun d hd => ?_) (by rw [List.length_map]; omega) (by omega) ?_) (fun fl s₁₁ h₁₁ => ?_) fun _ _ z => z
  · obtain ⟨F, hF, rfl⟩ := List.mem_map.mp hd
    rw [due_length]; have := (hFE F hF).width_le; omega
  · unfold leftOf at hlineL
    rw [List.drop_zero, List.length_append] at hlineL
    omega
  obtain ⟨rfl, tl, P₁₁, G₁₁⟩ := h₁₁
  refine wpAny_execs_cons <| wpAny_mono (law10 P₁₁ (Loc_eq _ _ _) (by omega)) (fun fl s₁₂ h₁₂ => ?_) fun _ _ z => z
  obtain ⟨rfl, tt, P₁₂, G₁₂⟩ := h₁₂
  have G812 : Go L s₈ s₁₂ := (((G₉.trans G₁₀).trans G₁₁).trans G₁₂)
  refine wpAny_execs_cons <| wpAny_mono (law11 hA T G R₁ P₁₂ (Loc_ne (Loc_eq _ _ _)) (Loc_eq _ _ _) (by omega) (line_ok hFE S)) (fun fl s₁₃ h₁₃ => ?_) fun _ _ z => z
  obtain ⟨rfl, P₁₃, G₁₃⟩ := h₁₃
  have G813 := G812.trans G₁₃
  have ep₁₃ := G813.2 _ _ hLp ep₈
  have ew₁₃ := G813.2 _ _ hLw ew₈
  have ee₁₃ := G813.2 _ _ hLe ee₈
  refine wpAny_execs_cons <| wpAny_mono (law12 (S := S) (Fs := Fs) hA T G R₁ P₁₃ (Loc_ne (Loc_eq _ _ _)) (Loc_ne (Loc_ne (Loc_ne (Loc_ne (Loc_ne (Loc_ne (Loc_ne (Loc_ne (Loc_eq _ _ _))))))))) hLp ep₁₃ hip (Loc_ne (Loc_ne (Loc_ne (Loc_ne (Loc_ne (Loc_ne (Loc_ne (Loc_eq _ _ _)))))))) hF1 (by omega)
    (fun i h => ⟨(hFin.at i h).one, by have := (hFin.at i h).width_le; omega⟩) (by omega)) (fun fl s₁₄ h₁₄ => ?_) fun _ _ z => z
  obtain ⟨rfl, ta, pc, tv, nt, qv, nq, gs, P₁₄, hLt, hLq, et₁₄, TV, eq₁₄, QV, os₁₄, g₁₄, hb, k₁₄⟩ := h₁₄
  have ew₁₄ := k₁₄ _ _ hLw ew₁₃
  have ee₁₄ := k₁₄ _ _ hLe ee₁₃
  refine wpAny_execs_cons <| wpAny_mono (law13 P₁₄ hu hF1 (Loc_ne (Loc_eq _ _ _)) (Loc_ne (Loc_ne (Loc_ne (Loc_ne (Loc_ne (Loc_ne (Loc_eq _ _ _))))))) et₁₄ TV ew₁₄ hwi) (fun fl s₁₅ h₁₅ => ?_) fun _ _ z => z
  obtain ⟨rfl, P₁₅, G₁₅⟩ := h₁₅
  have hE₁₅ : Flds L s₁₅.heap (exts fv (moreOf S)) (exts Fs (moreOf S)) := by
    have e1 := hE₇.go (G₈.trans G813)
    refine ⟨e1.len, fun i h => ?_⟩
    obtain ⟨t, e, hL, hF⟩ := e1.each i h
    exact ⟨t, e, hL, hF.at fun o q => G₁₅.2 t o hL (k₁₄ t o hL q)⟩
  refine wpAny_execs_cons <| wpAny_mono (law14 (Fs := exts Fs (moreOf S)) (rest := restOf S) hA T R₁ P₁₅ (Loc_ne (Loc_ne (Loc_eq _ _ _))) (Loc_ne (Loc_ne (Loc_ne (Loc_eq _ _ _)))) (Loc_ne (Loc_ne (Loc_ne (Loc_ne (Loc_ne (Loc_ne (Loc_ne (Loc_eq _ _ _)))))))) (Loc_ne (Loc_ne (Loc_ne (Loc_ne (Loc_ne (Loc_ne (Loc_eq _ _ _))))))) (Loc_eq _ _ _)
    hLe hLw hLq (G₁₅.2 _ _ hLe ee₁₄) (G₁₅.2 _ _ hLw ew₁₄) (G₁₅.2 _ _ hLq eq₁₄) hE₁₅ hwi (fun i h => QV i (by omega)) (by omega) (by omega) (fun i h => ⟨(hFE.at i h).ok, (hFE.at i h).good⟩)) (fun fl s₁₆ h₁₆ => ?_) fun _ _ z => z
  obtain ⟨rfl, l', P₁₆, G₁₆⟩ := h₁₆
  refine wpAny_execs_cons <| wpAny_Return_some <| Constant_bool ?_
  have S13 : Same s s₁₃ := S₁.trans ((((G₂.trans G₃).trans G37).trans G₈).trans G813).1
  refine ⟨_, rfl, P₁₆.fr.keep, P₁₆.up, ?_, ⟨gs, ?_, hb⟩, rfl⟩
  · rw [G₁₆.1.2, G₁₅.1.2, os₁₄, S13.2]
  · rw [G₁₆.1.1, G₁₅.1.1, g₁₄, S13.1]
end
end Mine
end

-- part H1
section
open PySem PySem.W PySem.Calls PyProof.Rows
set_option Elab.async false
set_option maxRecDepth 100000
namespace Mine

/-- a step that is no end in .done -/
def notDone : Step → Prop
  | .halt (.done _) _ => False
  | _ => True
theorem notDone_ite {c : Prop} [Decidable c] {a b : Step} (ha : notDone a) (hb : notDone b) : notDone (if c then a else b) := by
  by_cases h : c
  · rw [if_pos h]; exact ha
  · rw [if_neg h]; exact hb
theorem step_notDone {den : Code → Sem Fin} {p : Program} {w : World} {heap : Heap} {gens : Array GenState} {drawn : Drawn} {toks : Nat} {os : OsState} {cur : Sem Fin} {code : Code} {pos : Pos} {stack : List Frame}
    (h : ∀ f, cur = .pure (.done f) → stack ≠ []) : notDone (step den p w ⟨heap, gens, drawn, toks, os⟩ ⟨cur, code, pos, stack⟩) := by
  cases cur with
  | pure fin =>
    cases fin with
    | again c => exact trivial
    | done f =>
      cases stack with
      | nil => exact absurd rfl (h f rfl)
      | cons F r => cases F <;> exact trivial
  | raise e =>
    cases stack with
    | nil => exact notDone_ite trivial trivial
    | cons F r => cases F <;> exact trivial
  | finish e => exact notDone_ite trivial trivial
  | load a q k =>
    show notDone (match heap.get? a with | some o => _ | none => _)
    cases heap.get? a <;> exact trivial
  | update a q f k => exact notDone_ite trivial trivial
  | choose src n k => exact notDone_ite trivial trivial
  | genState g k =>
    show notDone (match gens[g]? with | none => _ | some st => _)
    cases gens[g]? <;> exact trivial
  | resume g r l k =>
    show notDone (match gens[g]? with | none => _ | some (.fresh c) => _ | some (.suspended kk _ c p frames _) => _ | some .running => _ | some .finished => _)
    cases gens[g]? with
    | none => exact trivial
    | some st =>
      cases st with
      | fresh c =>
        cases r with
        | send v => cases v <;> exact trivial
        | throw e => exact trivial
      | _ => exact trivial
  | yield v g0 l kk =>
    show notDone (match splitAtGen stack with | some (frames, (g, k, c, p), rest) => _ | none => _)
    cases splitAtGen stack <;> exact trivial
  | _ => exact trivial
theorem step_done {den : Code → Sem Fin} {p : Program} {w : World} {s s' : Shared} {t : Thread} {f : Flow} (h : step den p w s t = .halt (.done f) s') : s' = s ∧ through t = true := by
  refine ⟨step_halt_same den p w s s' t _ h, ?_⟩
  obtain ⟨heap, gens, drawn, toks, os⟩ := s
  obtain ⟨cur, code, pos, stack⟩ := t
  by_cases q : ∀ f, cur = .pure (.done f) → stack ≠ []
  · have := step_notDone (den := den) (p := p) (w := w) (heap := heap) (gens := gens) (drawn := drawn) (toks := toks) (os := os) (code := code) (pos := pos) q
    rw [h] at this
    exact this.elim
  · obtain ⟨g, hq⟩ := Classical.not_forall.mp q
    obtain ⟨hc, hs⟩ := Classical.not_imp.mp hq
    have hs' : stack = [] := Classical.not_not.mp hs
    subst hc hs'
    rfl
theorem run_last {den : Code → Sem Fin} {p : Program} {w : World} {f : Flow} : ∀ (n : Nat) (s s' : Shared) (t : Thread), runN den p w n s t = .halted (.done f) s' → ∃ m t₁, runN den p w m s t = .running s' t₁ ∧ through t₁ = true
  | 0, _, _, _, h => by simp [runN] at h
  | n + 1, s, s', t, h => by
    simp only [runN] at h
    cases hs : step den p w s t with
    | go s₂ t₂ =>
      rw [hs] at h
      obtain ⟨m, t₁, h1, h2⟩ := run_last n s₂ s' t₂ h
      exact ⟨m + 1, t₁, by simp only [runN, hs]; exact h1, h2⟩
    | halt o s₂ =>
      rw [hs] at h
      injection h with e1 e2
      subst e1 e2
      obtain ⟨e, ht⟩ := step_done hs
      exact ⟨0, t, by rw [e]; rfl, ht⟩

/-- a tree that ends well: the real run comes to its last thread -/
theorem top_runs {prog : Program} {w : World} {t : Sem Fin} {s : Shared} {R : Shared → Prop} (hreg : s.asleep)
    (h : wpAny (model prog w) callerA t (fun fin s' => ∃ f, fin = .done f ∧ (R s' ∧ leftWithCleanup s'.gens = false)) (fun _ _ => False) s) :
    ∃ n t₁ s₁ s₂, schedN (denote table) prog w n (.single s ⟨t, .builtin "claim.caller" {}, default, []⟩) = .running (.single s₁ t₁) ∧ through t₁ = true ∧ s₁.forget = s₂.forget ∧ R s₂ ∧ s₁.heap.life = s.heap.life := by
  have hw := wp_of_wpAny_done (R := fun r s' => (match r with | .ok _ => R s' | .error _ => False) ∧ leftWithCleanup s'.gens = false) caller_in
    (wpAny_mono h (fun fin s' ⟨f, e, a, b⟩ => ⟨f, e, a, b⟩) fun _ _ z => z.elim) default
  obtain ⟨n, r, s₂, hn, hR⟩ := (wp_iff_halts (M := model prog w) t (fun r s' => match r with | .ok _ => R s' | .error _ => False) default s).mp hw
  obtain ⟨s₁, hr, hf, hc⟩ := runNI_real (denote table) prog w hn (outcomeOf_ends r)
  cases r with
  | error e => exact hR.elim
  | ok f =>
    have hne : ∀ k s₃, runN (denote table) prog w k s ⟨t, .builtin "claim.caller" {}, default, []⟩ ≠ .halted (.unsupported "lifetime:generator-with-cleanup-left-suspended") s₃ := by
      intro k s₃ hk
      have a := runN_mono (denote table) prog w n k s _ _ s₁ hr
      have b := runN_mono (denote table) prog w k n s _ _ s₃ hk
      rw [Nat.add_comm, b] at a
      injection a with a1 _
      cases a1
    obtain ⟨m, t₁, h1, h2⟩ := run_last n s s₁ _ hr
    refine ⟨m, t₁, s₁, s₂, (schedN_eq_runN (denote table) prog w s _ hreg ⟨hc, hne⟩ m).trans (congrArg Run.lift h1), h2, hf, hR, runN_life _ _ _ hr⟩
end Mine
end

-- part H2
section
open PySem PySem.W PySem.Calls PyProof.Rows
set_option Elab.async false
set_option maxRecDepth 100000
namespace Mine

theorem callFrom_of_specK {c : ClaimW} {tree : List Value → Sem Fin} {w : World} {s : Shared} {free : Addr → Prop} {gens : Prop} {kept : Heap → Prop} (hz : s.asleep) (hfin : ∀ g ∈ s.gens, g = .finished)
    (hspec : ∀ args, c.pre args = true → WData.layableAll args = true →
      ∀ ord : List DictEntry → List DictEntry, (∀ l, (ord l).Perm l) →
      ∃ vs s₁, layAllW c.records (classAt s.heap) w.params ord args s = some (vs, s₁) ∧
        wpAny (model c.prog w) callerA (tree vs) (fun fin s' => ∃ f, fin = .done f ∧ (c.Ends s args vs s₁ (.ok f) s' ∧ s'.os = s.os ∧ (∃ gs, s'.gens = s.gens.push gs ∧ gs.bare = true) ∧ kept s'.heap)) (fun _ _ => False) s₁) :
    c.CallFrom (fun vs => ⟨tree vs, .builtin "claim.caller" {}, default, []⟩) w free gens kept s := by
  intro args hpre hlay ord hord
  obtain ⟨vs, s₁, hlaid, hcode⟩ := hspec args hpre hlay ord hord
  have hal := layAllW_rest _ _ _ hlaid
  obtain ⟨k, r, s', s'', hrun, hsched, hfo, hcase, hos, hkp, hg⟩ := thread_ends_bothG (prog := c.prog) (w := w) (t := tree vs) (s := s₁)
    (R := fun r s' => c.Ends s args vs s₁ r s' ∧ s'.os = s.os ∧ kept s'.heap ∧ ∃ gs, s'.gens = s.gens.push gs)
    (Shared.asleep_of_life hal.2.2.2 hz)
    (wpAny_mono hcode (by
      rintro fin s' ⟨f, e, h1, h2, ⟨gs, h3, h3'⟩, h4⟩
      refine ⟨f, e, ⟨h1, h2, h4, gs, h3⟩, leftWithCleanup_false_of_bare fun x hx => ?_⟩
      rw [h3] at hx
      rcases Array.mem_push.mp hx with q | rfl
      · rw [hfin x q]; rfl
      · exact h3') (by
      intro e s' z
      exact z.elim))
  obtain ⟨eh, _, _, eo, eg⟩ := Shared.forget_eq hfo
  have hcase := hcase.congr eh
  have hkp : kept s'.heap := by rw [eh]; exact hkp
  rw [← eo] at hos
  have hlife : s'.heap.life = s.heap.life := (runN_life _ _ _ hrun).trans hal.2.2.2
  refine ⟨vs, s₁, hlaid, k, _, s', hsched, ?_, (fun _ i x hx => ?_), hkp, by rw [hlife], Shared.rest_eq hos⟩
  · rcases hcase with ⟨v, rfl, d1, d2, d3, d4, d5⟩ | ⟨e, ob, cls, rfl, d1, d2, d3, d4, d5⟩
    · exact .inl ⟨v, rfl, d1, d2, d3, fun b o y _ => d4 b o y, d5⟩
    · exact .inr ⟨e, ob, cls, rfl, d1, d2, d3, d4, fun b o y _ => d5 b o y⟩
  · obtain ⟨gs, hgs⟩ := hg
    have hi : i < s.gens.size := (Array.getElem?_eq_some_iff.mp hx).1
    obtain rfl : x = .finished := hfin x (Array.mem_of_getElem? hx)
    have e : (s'.gens.map GenState.forget)[i]? = (s''.gens.map GenState.forget)[i]? := by rw [eg]
    rw [Array.getElem?_map, Array.getElem?_map, hgs, Array.getElem?_push, if_neg (by omega), hx] at e
    cases h : s'.gens[i]? with
    | none => rw [h] at e; cases e
    | some y =>
      rw [h] at e
      simp only [Option.map_some, Option.some.injEq] at e
      exact congrArg some (GenState.eq_of_forget_eq e rfl)
end Mine
end

-- part H4
section
open PySem PySem.W PySem.Calls PyProof.Rows
set_option Elab.async false
set_option maxRecDepth 100000
namespace Mine

/-- the globals: what the boot laid, and the names l on top -/
noncomputable def mg0 (P : Params) : Str → Option Value := (boot_heap P).nsMap mainGlobals
noncomputable def GM' (P : Params) (l : List (Str × Value)) : Str → Option Value := fun x => match l.lookup x with | some v => some v | none => mg0 P x
theorem GM_cons (P : Params) (l : List (Str × Value)) (x : Str) (v : Value) : (fun y => if y = x then some v else GM' P l y) = GM' P ((x, v) :: l) := by
  funext y
  unfold GM'
  rw [List.lookup_cons]
  by_cases h : y = x
  · subst h; simp
  · rw [if_neg h, beq_false_of_ne h]

/-- a key of the statics that the top may have laid -/
def okKey (k : Str) : Prop := k.opensWith "type.__subclasses__." = true

structure TP (P : Params) (s : Shared) (l : List (Str × Value)) (c Pl : Addr) (ps : List Value) : Prop where
  main : s.heap.Main (GM' P l) c Pl ps.toArray
  old : ∀ b o, b ≠ mainGlobals → b ≠ cStatics → (boot_heap P).get? b = some o → s.heap.get? b = some o
  lowc : (boot_heap P).objs.size ≤ c ∧ (boot_heap P).objs.size ≤ Pl
  stat : ∃ ms, s.heap.Ns cStatics ms ∧ ∀ k v, ms k = some v → okKey k

section
variable {P : Params} {s : Shared} {l : List (Str × Value)} {c Pl F : Addr} {ps : List Value} {w : World} {A : Around} {E : Value → Shared → Prop}

theorem TP.sizes : (boot_heap P).objs.size = 11 := rfl
theorem TP.stPl (T : TP P s l c Pl ps) : cStatics ≠ Pl := Nat.ne_of_lt (Nat.lt_of_lt_of_le (show 2 < 11 by decide) T.lowc.2)
theorem TP.lim (T : TP P s l c Pl ps) : s.heap.NoLimit := by
  obtain ⟨ms, hn, hk⟩ := T.stat
  refine ⟨ms, hn, ?_⟩
  cases h : ms "sys.recursionlimit" with
  | none => rfl
  | some v => exact absurd (hk _ _ h) (by unfold okKey; decide)
theorem TP.blt (T : TP P s l c Pl ps) : s.heap.Ns builtinsNs ((boot_heap P).nsMap builtinsNs) := by
  have h : (boot_heap P).Ns builtinsNs ((boot_heap P).nsMap builtinsNs) := .of_isNs (by kernel_rfl)
  exact h.at' fun o e => T.old _ _ (by decide) (by decide) e

/-- the heap grows -/
theorem TP.grow (T : TP P s l c Pl ps) {h' : Heap} {tk : Tok} (k : s.heap.StaysIn h') : TP P { s with heap := h', toks := tk } l c Pl ps := by
  obtain ⟨⟨g, code, low, bm, o, a1, a2, a3, a4, a5, a6⟩, old, lowc, ms, hn, hk⟩ := T
  exact ⟨⟨g.keeps k, code.keeps k, low, bm, o, a1, a2, a3, a4, k _ _ a5, a6⟩, fun b o h1 h2 e => k _ _ (old b o h1 h2 e), lowc, ms, hn.keeps k, hk⟩

/-- a name is set -/
theorem TP.set (T : TP P s l c Pl ps) {x : Str} {v : Value} {h' : Heap} {tk : Tok} (hn : h'.Ns mainGlobals (fun y => if y = x then some v else GM' P l y)) (hs : Heap.SameBut mainGlobals s.heap h') (hx : x ≠ "__builtins__") : TP P { s with heap := h', toks := tk } ((x, v) :: l) c Pl ps := by
  obtain ⟨⟨g, code, low, bm, o, a1, a2, a3, a4, a5, a6⟩, old, lowc, ms, hn', hk⟩ := T
  rw [GM_cons] at hn
  refine ⟨⟨hn, code.sameBut hs (Nat.ne_of_gt low.1) (Nat.ne_of_gt low.2), low, bm, o, ?_, a2, a3, a4, (hs.2 _ a3).trans a5, a6⟩, fun b o h1 h2 e => (hs.2 _ h1).trans (old b o h1 h2 e), lowc, ms, hn'.sameBut hs (by decide), hk⟩
  rw [← GM_cons]
  dsimp only
  rw [if_neg (Ne.symm hx)]
  exact a1

theorem stM {x : Str} {v : Value} {Q : Unit → Shared → Prop} (T : TP P s l c Pl ps)
    (h : ∀ s', Same s s' → Heap.SameBut mainGlobals s.heap s'.heap → TP P s' ((x, v) :: l) c Pl ps → Q () s') (hl : pw.main.scope.names.lookup x = some .local := by rfl) (hx : x ≠ "__builtins__" := by decide) :
    wpAny (model pw w) A (storeName (mainEnv pw c F) x v) Q E s :=
  wpAny_storeName_local (env := mainEnv pw c F) hl T.main.g (fun h' hn hs => h _ ⟨rfl, rfl⟩ hs (T.set hn hs hx)) (by rfl)

/-- a def of the top -/
theorem defM {name : Str} {params : Arguments} {body : List Stmt} {scope : Scope} {pos : Pos} {Q : Flow → Shared → Prop} (T : TP P s l c Pl ps)
    (h : ∀ s' a c', Same s s' → TP P s' ((name, .ref a) :: l) c Pl (ps ++ [rawInt pos.line, rawInt pos.col, .ref c']) → (∃ pm, s'.heap.get? a = some { cls := .type "function", data := .func (plainDef name params body scope pm (.ref c')) }) → s'.heap.CodeRec (.ref c') name →
      (∀ b o, b ≠ Pl → b ≠ mainGlobals → s.heap.get? b = some o → s'.heap.get? b = some o) → s.heap.objs.size ≤ a → s.heap.objs.size ≤ c' → Q .next s')
    (hexec : PlainDefTree name params body scope pos := by intro _; rfl)
    (hfree : ∀ x ∈ scope.names, x.2 ≠ .free := by decide) (hdoc : docOf body = none := by rfl) (hloc : pw.main.scope.names.lookup name = some .local := by rfl)
    (hq : qualnameIn { scope := pw.main.scope, locals := mainGlobals, globals := mainGlobals, cells := [] } name name = name := by rfl)
    (hnb : name ≠ "__builtins__" := by decide) (hnf : codeAmong pos ps = none := by rfl) :
    wpAny (model pw w) A (exec (.FunctionDef name params body [] none [] scope none name pos) (mainEnv pw c F)) Q E s := by
  refine wpAny_plainDef hexec hfree hdoc hloc hq T.main (fun a c' h' tk ha hm hfo hcd keep => ?_) hnb rfl (by simpa using hnf)
  refine h _ a c' ⟨rfl, rfl⟩ ⟨?_, fun b o h1 h2 e => keep b o (fun q => ?_) h1 (T.old b o h1 h2 e), T.lowc, ?_⟩ ⟨_, hfo⟩ hcd.2 keep ha hcd.1
  · rw [GM_cons] at hm
    have e : ps.toArray ++ #[rawInt pos.line, rawInt pos.col, .ref c'] = (ps ++ [rawInt pos.line, rawInt pos.col, .ref c']).toArray := by simp
    rw [e] at hm
    exact hm
  · subst q
    exact absurd (Heap.lt_size e) (Nat.not_lt.mpr T.lowc.2)
  · obtain ⟨ms, hn, hk⟩ := T.stat
    exact ⟨ms, hn.at' fun o e => keep _ _ T.stPl (by decide) e, hk⟩
end
end Mine
end

-- part T1
section
open PySem PySem.W PySem.Calls PyProof.Rows
set_option Elab.async false
namespace Mine
open SetTable

def stepN (mask : Nat) : Nat → Nat × Nat → Nat × Nat
  | 0, x => x
  | m + 1, x => stepN mask m (leap mask x.1 x.2)
theorem stepN_add (mask : Nat) : ∀ (a b : Nat) (x : Nat × Nat), stepN mask (a + b) x = stepN mask b (stepN mask a x)
  | 0, b, x => by rw [Nat.zero_add]; rfl
  | a + 1, b, x => by
    rw [show a + 1 + b = (a + b) + 1 by omega]
    exact stepN_add mask a b _
theorem stepN_snd (mask : Nat) : ∀ (m : Nat) (x : Nat × Nat), (stepN mask m x).2 = x.2 / 32 ^ m
  | 0, x => by simp [stepN]
  | m + 1, x => by
    show (stepN mask m (leap mask x.1 x.2)).2 = _
    rw [stepN_snd mask m]
    show x.2 / 32 / 32 ^ m = x.2 / 32 ^ (m + 1)
    rw [Nat.div_div_eq_div_mul, Nat.pow_succ, Nat.mul_comm]
/-- the ring that a spent perturb walks -/
def ring (mask : Nat) : Nat → Nat → Nat
  | 0, i => i
  | m + 1, i => ring mask m ((i * 5 + 1) % (mask + 1))
theorem stepN_ring (mask : Nat) : ∀ (m i : Nat), stepN mask m (i, 0) = (ring mask m i, 0)
  | 0, i => rfl
  | m + 1, i => by
    show stepN mask m (leap mask i 0) = _
    unfold leap
    rw [Nat.zero_div, Nat.add_zero, stepN_ring mask m]
    rfl
def ringList (mask : Nat) : Nat → Nat → List Nat
  | 0, _ => []
  | m + 1, i => i :: ringList mask m ((i * 5 + 1) % (mask + 1))
theorem mem_ringList (mask j : Nat) : ∀ (n i : Nat), j ∈ ringList mask n i → ∃ m, m < n ∧ ring mask m i = j
  | 0, _, h => by cases h
  | n + 1, i, h => by
    rcases List.mem_cons.mp h with rfl | h
    · exact ⟨0, by omega, rfl⟩
    · obtain ⟨m, hm, e⟩ := mem_ringList mask j n _ h
      exact ⟨m + 1, by omega, e⟩
def ringOk (mask : Nat) : Bool := ((List.range (mask + 1)).all fun j => (ringList mask (mask + 1) 0).contains j) && ring mask (mask + 1) 0 == 0
theorem ring7 : ringOk 7 = true := by decide +kernel
theorem ring127 : ringOk 127 = true := by decide +kernel
theorem ring_add (mask : Nat) : ∀ (a b i : Nat), ring mask (a + b) i = ring mask b (ring mask a i)
  | 0, b, i => by rw [Nat.zero_add]; rfl
  | a + 1, b, i => by
    rw [show a + 1 + b = (a + b) + 1 by omega]
    exact ring_add mask a b _
theorem ring_reach {mask : Nat} (h : ringOk mask = true) {i j : Nat} (hi : i ≤ mask) (hj : j ≤ mask) : ∃ m, m ≤ mask ∧ ring mask m i = j := by
  obtain ⟨h, h0⟩ := Bool.and_eq_true_iff.mp h
  have h0 := eq_of_beq h0
  have at0 : ∀ k, k ≤ mask → ∃ m, m < mask + 1 ∧ ring mask m 0 = k := fun k hk =>
    mem_ringList mask k _ _ (List.contains_iff_mem.mp (List.all_eq_true.mp h k (List.mem_range.mpr (by omega))))
  obtain ⟨a, ha, ea⟩ := at0 i hi
  obtain ⟨b, hb, eb⟩ := at0 j hj
  rcases Nat.le_total a b with q | q
  · refine ⟨b - a, by omega, ?_⟩
    rw [← ea, ← ring_add, show a + (b - a) = b by omega, eb]
  · by_cases hab : a = b
    · exact ⟨0, by omega, by rw [← ea, hab, eb]; rfl⟩
    · refine ⟨b + (mask + 1) - a, by omega, ?_⟩
      rw [← ea, ← ring_add, show a + (b + (mask + 1) - a) = (mask + 1) + b by omega, ring_add, h0, eb]

theorem free_none {mask : Nat} {owner : Array (Option Nat)} : ∀ (fuel i p : Nat), layClean.free mask owner fuel i p = none → ∀ m, m < fuel → (owner.getD (stepN mask m (i, p)).1 (some 0)).isNone = false
  | 0, _, _, _, m, hm => absurd hm (Nat.not_lt_zero _)
  | fuel + 1, i, p, h, m, hm => by
    unfold layClean.free at h
    cases hf : (List.range (runEnd mask i + 1 - i)).find? fun k => (owner.getD (i + k) (some 0)).isNone with
    | some k => rw [hf] at h; cases h
    | none =>
      rw [hf] at h
      cases m with
      | zero =>
        have hr : i ≤ runEnd mask i := by unfold runEnd; split <;> omega
        have := List.find?_eq_none.mp hf 0 (List.mem_range.mpr (by omega))
        show (owner.getD i (some 0)).isNone = false
        rw [Nat.add_zero] at this
        exact Bool.eq_false_iff.mpr this
      | succ m => exact free_none fuel _ _ h m (by omega)
theorem free_some {mask : Nat} {owner : Array (Option Nat)} : ∀ (fuel i p j : Nat), layClean.free mask owner fuel i p = some j → (owner.getD j (some 0)).isNone = true
  | 0, _, _, _, h => by simp [layClean.free] at h
  | fuel + 1, i, p, j, h => by
    unfold layClean.free at h
    cases hf : (List.range (runEnd mask i + 1 - i)).find? fun k => (owner.getD (i + k) (some 0)).isNone with
    | some k =>
      rw [hf] at h
      cases h
      exact List.find?_some (p := fun k => (owner.getD (i + k) (some 0)).isNone) hf
    | none =>
      rw [hf] at h
      exact free_some fuel _ _ j h

theorem leap_le (mask i p : Nat) : (leap mask i p).1 ≤ mask := by
  unfold leap
  have := Nat.mod_lt (i * 5 + 1 + p / 32) (show 0 < mask + 1 by omega)
  dsimp only
  omega
theorem stepN_le {mask : Nat} : ∀ (m : Nat) (x : Nat × Nat), x.1 ≤ mask → (stepN mask m x).1 ≤ mask
  | 0, _, h => h
  | m + 1, x, _ => stepN_le m _ (leap_le mask x.1 x.2)

theorem bits_lt (h : Int) : bits h < 2 ^ 64 := by
  unfold bits
  have := Int.emod_lt_of_pos h (show (0 : Int) < 2 ^ 64 by decide)
  have := Int.emod_nonneg h (show (2 ^ 64 : Int) ≠ 0 by decide)
  omega
/-- a table with room has a slot for every hash -/
theorem free_found {mask : Nat} (hr : ringOk mask = true) {owner : Array (Option Nat)} (hw : ∃ j, j ≤ mask ∧ (owner.getD j (some 0)).isNone = true) (h : Int) :
    ∃ j, layClean.free mask owner (turns mask) (bits h % (mask + 1)) (bits h) = some j ∧ (owner.getD j (some 0)).isNone = true := by
  cases hf : layClean.free mask owner (turns mask) (bits h % (mask + 1)) (bits h) with
  | some j => exact ⟨j, rfl, free_some _ _ _ _ hf⟩
  | none =>
    exfalso
    obtain ⟨j, hj, hn⟩ := hw
    have hi : bits h % (mask + 1) ≤ mask := by have := Nat.mod_lt (bits h) (show 0 < mask + 1 by omega); omega
    have h13 : (stepN mask 13 (bits h % (mask + 1), bits h)).2 = 0 := by
      rw [stepN_snd]
      exact Nat.div_eq_of_lt (Nat.lt_trans (bits_lt h) (by decide))
    have hle := stepN_le 13 (bits h % (mask + 1), bits h) hi
    obtain ⟨m, hm, e⟩ := ring_reach hr hle hj
    have e2 : stepN mask (13 + m) (bits h % (mask + 1), bits h) = (j, 0) := by
      rw [stepN_add]
      have : stepN mask 13 (bits h % (mask + 1), bits h) = ((stepN mask 13 (bits h % (mask + 1), bits h)).1, 0) := by rw [← h13]
      rw [this, stepN_ring, e]
    have := free_none _ _ _ hf (13 + m) (by unfold turns; omega)
    rw [e2] at this
    rw [hn] at this; cases this
end Mine
end

-- part T2
section
open PySem PySem.W PySem.Calls PyProof.Rows
set_option Elab.async false
namespace Mine
open SetTable

theorem filterMap_set (k : Nat) : ∀ (l : List (Option Nat)) (j : Nat), l[j]? = some none → ((l.set j (some k)).filterMap id).Perm (k :: l.filterMap id)
  | [], j, h => by simp at h
  | x :: l, 0, h => by
    simp at h
    subst h
    simp
  | x :: l, j + 1, h => by
    have ih := filterMap_set k l j (by simpa using h)
    cases x with
    | none => simpa using ih
    | some y =>
      simp only [List.set_cons_succ, List.filterMap_cons, id]
      exact (List.Perm.cons y ih).trans (List.Perm.swap k y _)
theorem filterMap_full : ∀ l : List (Option Nat), (∀ x ∈ l, x ≠ none) → (l.filterMap id).length = l.length
  | [], _ => rfl
  | x :: l, h => by
    cases x with
    | none => exact absurd rfl (h none (.head _))
    | some y => simp [filterMap_full l fun z hz => h z (.tail _ hz)]

structure LayInv (mask : Nat) (owner : Array (Option Nat)) (k : Nat) : Prop where
  size : owner.size = mask + 1
  perm : (owner.toList.filterMap id).Perm (List.range k)

theorem LayInv.room {mask k : Nat} {owner : Array (Option Nat)} (I : LayInv mask owner k) (hk : k ≤ mask) : ∃ j, j ≤ mask ∧ (owner.getD j (some 0)).isNone = true := by
  by_cases q : ∀ x ∈ owner.toList, x ≠ none
  · have h1 := filterMap_full _ q
    have h2 := I.perm.length_eq
    have := I.size
    simp at h1 h2
    omega
  · have q' : none ∈ owner.toList := by
      by_cases hm : none ∈ owner.toList
      · exact hm
      · exact absurd (fun (x : Option Nat) (hx : x ∈ owner.toList) (hn : x = none) => hm (hn ▸ hx)) q
    obtain ⟨j, hj, e⟩ := List.getElem_of_mem q'
    have hj' : j < owner.size := by simpa using hj
    refine ⟨j, by have := I.size; omega, ?_⟩
    have : owner[j] = none := by simpa using e
    simp [Array.getD, hj', this]
theorem LayInv.step {mask k j : Nat} {owner : Array (Option Nat)} (I : LayInv mask owner k) (hj : (owner.getD j (some 0)).isNone = true) : LayInv mask (owner.setIfInBounds j (some k)) (k + 1) := by
  have hj' : owner.toList[j]? = some none := by
    by_cases q : j < owner.size
    · have : owner[j] = none := by simpa [Array.getD, q] using hj
      rw [Array.getElem?_toList, Array.getElem?_eq_getElem q, this]
    · simp [Array.getD, q] at hj
  refine ⟨by rw [Array.size_setIfInBounds]; exact I.size, ?_⟩
  rw [Array.toList_setIfInBounds]
  refine (filterMap_set k _ j hj').trans ?_
  refine (List.Perm.cons k I.perm).trans ?_
  rw [List.range_succ]
  exact (List.perm_append_singleton k (List.range k)).symm

theorem layClean_fold {mask : Nat} (hr : ringOk mask = true) : ∀ (hs : List Int) (owner : Array (Option Nat)) (k : Nat), LayInv mask owner k → k + hs.length ≤ mask + 1 →
    ∃ owner', hs.foldl (fun (acc : Option (Array (Option Nat) × Nat)) h => do
      let (owner, k) ← acc
      let j ← layClean.free mask owner (turns mask) (bits h % (mask + 1)) (bits h)
      pure (owner.setIfInBounds j (some k), k + 1)) (some (owner, k)) = some (owner', k + hs.length) ∧ LayInv mask owner' (k + hs.length)
  | [], owner, k, I, _ => ⟨owner, rfl, I⟩
  | h :: hs, owner, k, I, hl => by
    simp only [List.length_cons] at hl
    obtain ⟨j, e, hj⟩ := free_found hr (I.room (by omega)) h
    obtain ⟨o', e', I'⟩ := layClean_fold hr hs _ (k + 1) (I.step hj) (by omega)
    refine ⟨o', ?_, by rw [List.length_cons, show k + (hs.length + 1) = k + 1 + hs.length by omega]; exact I'⟩
    rw [List.foldl_cons, List.length_cons, show k + (hs.length + 1) = k + 1 + hs.length by omega, ← e']
    congr 1
    show (layClean.free mask owner (turns mask) (bits h % (mask + 1)) (bits h)).bind _ = _
    rw [e]
    rfl

theorem layInv_new (mask : Nat) : LayInv mask (Array.replicate (mask + 1) none) 0 := by
  refine ⟨by simp, ?_⟩
  rw [Array.toList_replicate]
  have : ∀ n, (List.replicate n (none : Option Nat)).filterMap id = [] := fun n => by
    induction n with
    | zero => rfl
    | succ n ih => rw [List.replicate_succ]; simpa using ih
  rw [this]
  exact List.Perm.refl _

theorem live_snd (l : List (Option Nat)) : ((List.range l.length).filterMap fun j => (l.getD j none).map fun k => (j, k)).map (·.2) = l.filterMap id := by
  rw [List.map_filterMap]
  have e1 : (fun j => ((l.getD j none).map fun k => (j, k)).map (·.2)) = fun j : Nat => id (l.getD j none) := by
    funext j
    cases l.getD j none <;> rfl
  rw [e1]
  have e2 : (List.range l.length).map (fun j => l.getD j none) = l := by
    apply List.ext_getElem
    · simp
    · intro i h1 h2
      simp [List.getD, h2]
  conv => rhs; rw [← e2]
  rw [List.filterMap_map]
  rfl

/-- the laid table holds all -/
theorem laid_found {mask : Nat} (hr : ringOk mask = true) (finger moves : Nat) (led plain : Bool) (hashes : Array Int) (hl : hashes.size ≤ mask) :
    ∃ t order, laid mask finger moves led plain hashes = some (t, order) ∧ order.toList.Perm (List.range hashes.size) ∧ t.mask = mask ∧ t.dummies = #[] ∧ t.place.size = hashes.size := by
  obtain ⟨o, e, I⟩ := layClean_fold hr hashes.toList _ 0 (layInv_new mask) (by simp; omega)
  rw [Nat.zero_add] at e I
  have hlc : layClean mask hashes = some o := by
    unfold layClean
    rw [← Array.foldl_toList, e]
    rfl
  unfold laid
  rw [hlc]
  refine ⟨_, _, rfl, ?_, rfl, rfl, ?_⟩
  · have hs : mask + 1 = o.toList.length := by rw [Array.length_toList]; exact I.size.symm
    have e1 : (fun j => (o.getD j none).map (j, ·)) = fun j => (o.toList.getD j none).map fun k => (j, k) := by
      funext j
      congr 1
      simp [List.getD, Array.getD_eq_getD_getElem?]
    rw [List.toList_toArray, e1, hs, live_snd]
    simpa using I.perm
  · have hs : mask + 1 = o.toList.length := by rw [Array.length_toList]; exact I.size.symm
    have e1 : (fun j => (o.getD j none).map (j, ·)) = fun j => (o.toList.getD j none).map fun k => (j, k) := by
      funext j
      congr 1
      simp [List.getD, Array.getD_eq_getD_getElem?]
    have e2 := live_snd o.toList
    have e3 := congrArg List.length e2
    rw [List.length_map, I.perm.length_eq, List.length_range] at e3
    rw [e1, hs]
    simp only [List.size_toArray, List.length_map]
    rw [e3]; simp
end Mine
end

-- part T3
section
open PySem PySem.W PySem.Calls PyProof.Rows
set_option Elab.async false
namespace Mine
open SetTable

/-- a frozenset of strs, its table's mask, no dummies -/
def FzM (w : World) (h : Heap) (a : Addr) (ks : List Str) (mask : Nat) : Prop :=
  ∃ es ep t, h.get? a = some { cls := .type "frozenset", data := .set es ep t } ∧ Ents w es ks ∧ ks.length < scanBound ∧ t.fits es.size = true ∧ t.mask = mask ∧ t.dummies = #[]
theorem FzM.at {w : World} {h : Heap} {a : Addr} {ks : List Str} {mask : Nat} (x : FzM w h a ks mask) : FzAt w h a ks :=
  let ⟨_, _, _, e, en, hb, hf, _⟩ := x; .mk e en hb hf

theorem pick_perm {order : Array Nat} {es : Array (Int × Value)} (hp : order.toList.Perm (List.range es.size)) : (order.filterMap (es[·]?)).toList.Perm es.toList := by
  rw [Array.toList_filterMap]
  refine (hp.filterMap _).trans ?_
  have : (List.range es.size).filterMap (es[·]?) = es.toList := by
    have e : (fun i : Nat => es[i]?) = fun i => es.toList[i]? := by funext i; simp
    rw [e, show es.size = es.toList.length by simp]
    have key : ∀ l : List (Int × Value), (List.range l.length).filterMap (l[·]?) = l := by
      intro l
      induction l with
      | nil => rfl
      | cons x r ih =>
        rw [List.length_cons, List.range_succ_eq_map, List.filterMap_cons]
        simp only [List.getElem?_cons_zero, List.filterMap_map]
        congr 1
    exact key _
  rw [this]

section
variable {w : World} {A : Around} {E : Value → Shared → Prop} {s : Shared} {a r : Addr} {ks : List Str}

theorem wp_reordered {es : Array (Int × Value)} {t : SetTable} {order : Array Nat} {g : Sem (Array (Int × Value) × SetTable)} {Q : Array (Int × Value) × SetTable → Shared → Prop}
    (hg : g = (if ((order.filterMap (es[·]?)).size != es.size) = true then unsupported "internal:set-table-lost-an-element" else pure (order.filterMap (es[·]?), t)))
    (hp : order.toList.Perm (List.range es.size)) (h : Q (order.filterMap (es[·]?), t) s) : wpAny (model pw w) A g Q E s := by
  have hl := (pick_perm hp).length_eq
  have : ((order.filterMap (es[·]?)).size != es.size) = false := by
    rw [← Array.length_toList, hl, Array.length_toList]; simp
  rw [hg, this, if_neg (by decide)]
  exact wpAny_pure h

theorem fz_relay0 {ep wanted mask : Nat} {t : SetTable} {Q : Unit → Shared → Prop} (ho : s.heap.get? r = some { cls := .type "frozenset", data := .set #[] ep t }) (hf : t.fits 0 = true) (hw : sizeAbove wanted - 1 = mask) (hz : sizeAbove wanted ≤ 100000) (hr : ringOk mask = true)
    (h : ∀ h' ep' t', Heap.SameBut r s.heap h' → h'.get? r = some { cls := .type "frozenset", data := .set #[] ep' t' } → t'.mask = mask → t'.dummies = #[] → t'.fits 0 = true → t'.place.size = 0 → Q () { s with heap := h' }) :
    wpAny (model pw w) A (setRelay r wanted) Q E s := by
  unfold setRelay
  refine wpAny_bind (wpAny_setState_of ho rfl hf ?_)
  dsimp only
  rw [if_neg (by rw [sizeLine_eq]; omega)]
  obtain ⟨t', order, e, hp, h1, h2, h3⟩ := laid_found hr t.finger (t.movedTo (sizeAbove wanted - 1)) t.led t.plain (#[].map fun e : Int × Value => e.1) (by simp)
  have e' : t.relaid ((#[] : Array (Int × Value)).map (·.1)) wanted = some (t', order) := by
    unfold relaid
    rw [hw] at e ⊢
    exact e
  rw [e']
  refine wpAny_bind (wp_reordered (t := t') (order := order) rfl (by simpa using hp) ?_)
  have he : order.filterMap ((#[] : Array (Int × Value))[·]?) = #[] := by
    have := pick_perm (order := order) (es := #[]) (by simpa using hp)
    exact Array.ext' (by simpa using this)
  rw [he]
  refine wpAny_storeSet_of ho rfl ?_ (by rw [sizeLine_eq]; simp)
  have h30 : t'.place.size = 0 := by simpa using h3
  exact h _ _ _ (Heap.SameBut.update ..) (fz_store ho) h1 h2 (by unfold SetTable.fits SetTable.fill; rw [h2, h30]; simp) h30
end
end Mine
end

-- part T4
section
open PySem PySem.W PySem.Calls PyProof.Rows
set_option Elab.async false
namespace Mine
open SetTable

section
variable {w : World} {A : Around} {E : Value → Shared → Prop} {s : Shared} {a r : Addr} {ks : List Str}

/-- the copy's table fits -/
def roomMask (n : Nat) : Nat := if n * 5 ≥ 21 then sizeAbove (n * 2) - 1 else 7

theorem fz_mergeNew {led : Bool} {ep : Nat} {mask : Nat} {Q : Unit → Shared → Prop} {each : Sem Unit} (hS : FzAt w s.heap a ks) (hne : ks ≠ []) (hra : r ≠ a) (hr : s.heap.get? r = some { cls := .type "frozenset", data := .set #[] ep (.fresh 0 0 led) })
    (hm : roomMask ks.length = mask) (hok : ringOk mask = true) (hn : ks.length ≤ mask) (hz : sizeAbove (ks.length * 2) ≤ 100000)
    (h : ∀ h', Heap.SameBut r s.heap h' → FzM w h' r ks mask → Q () { s with heap := h' }) :
    wpAny (model pw w) A (setMerge r a each) Q E s := by
  obtain ⟨es, epo, to, ho, hel, hmem, hb, hf, hlen⟩ := hS
  have hx : Ents w es ks := ⟨hel, hmem, hlen⟩
  have hkl : 0 < ks.length := by cases ks with | nil => exact absurd rfl hne | cons _ _ => simp
  unfold setMerge
  rw [if_neg (by simpa using hra)]
  refine wpAny_bind (wpAny_setState_of ho rfl hf ?_)
  dsimp only
  rw [if_neg (by rw [Array.isEmpty_iff_size_eq_zero]; omega)]
  unfold setRoomFor
  refine wpAny_bind (wpAny_bind (wpAny_setState_of hr rfl rfl ?_))
  have hroom : (SetTable.fresh 0 0 led).roomFor es.size = if ks.length * 5 ≥ 21 then some (ks.length * 2) else none := by
    unfold SetTable.roomFor SetTable.fill SetTable.fresh
    simp [hlen]
  dsimp only
  rw [hroom]
  by_cases q : ks.length * 5 ≥ 21
  · rw [if_pos q]
    unfold roomMask at hm
    rw [if_pos q] at hm
    dsimp only
    refine fz_relay0 hr rfl hm hz hok fun h₁ ep₁ t₁ b₁ e₁ m₁ d₁ f₁ p₁ => ?_
    have hend : ∀ h', Heap.SameBut r h₁ h' → FzM w h' r ks mask → Q () { s with heap := h' } := fun h' b' F' => h h' (b₁.trans b') F'
    clear q
    have hfill : t₁.fill = 0 := by unfold SetTable.fill; rw [p₁, d₁]; rfl
    refine wpAny_bind (wpAny_setState_of e₁ rfl f₁ ?_)
    dsimp only
    unfold SetTable.road
    rw [hfill]
    simp only [bne_self_eq_false, Bool.false_eq_true, if_false]
    by_cases q : (t₁.mask == to.mask && to.dummies.isEmpty) = true
    · rw [if_pos q]
      obtain ⟨q1, q2⟩ := Bool.and_eq_true_iff.mp q
      refine wpAny_storeSet_of e₁ rfl ?_ (fits_of_scanBound hb)
      refine hend _ (Heap.SameBut.update ..) ⟨_, _, _, fz_store e₁, hx, hlen ▸ hb, hf, ?_, ?_⟩
      · show to.mask = mask
        rw [← m₁]; exact (eq_of_beq q1).symm
      · show to.dummies = #[]
        simpa using q2
    · rw [if_neg q]
      obtain ⟨t', order, e, hpm, h1, h2, h3⟩ := laid_found (mask := t₁.mask) (m₁.symm ▸ hok) t₁.finger t₁.moves (t₁.led && to.led) (t₁.plain && to.plain) (es.map (·.1)) (by rw [Array.size_map, hlen, m₁]; exact hn)
      rw [Array.size_map] at hpm h3
      dsimp only
      rw [e]
      refine wpAny_bind (wp_reordered (t := t') (order := order) rfl hpm ?_)
      have hpp := pick_perm hpm
      have hx' := hx.perm hpp
      refine wpAny_storeSet_of e₁ rfl ?_ (fits_of_scanBound (by rw [hx'.2.2, ← hlen]; exact hb))
      refine hend _ (Heap.SameBut.update ..) ⟨_, _, _, fz_store e₁, hx', hlen ▸ hb, ?_, h1.trans m₁, h2⟩
      unfold SetTable.fits SetTable.fill
      rw [h2, h3, hlen, hx'.2.2, h1, m₁]
      simpa using hn
  · rw [if_neg q]
    unfold roomMask at hm
    rw [if_neg q] at hm
    dsimp only
    refine wpAny_pure ?_
    clear q
    generalize hT : SetTable.fresh 0 0 led = T at hr
    have m₂ : T.mask = mask := by rw [← hT]; exact hm.symm ▸ rfl
    have d₂ : T.dummies = #[] := by rw [← hT]; rfl
    have p₂ : T.place.size = 0 := by rw [← hT]; rfl
    have f₂ : T.fits 0 = true := by rw [← hT]; rfl
    have hfill : T.fill = 0 := by unfold SetTable.fill; rw [p₂, d₂]; rfl
    refine wpAny_bind (wpAny_setState_of hr rfl f₂ ?_)
    dsimp only
    unfold SetTable.road
    rw [hfill]
    simp only [bne_self_eq_false, Bool.false_eq_true, if_false]
    by_cases q : (T.mask == to.mask && to.dummies.isEmpty) = true
    · rw [if_pos q]
      obtain ⟨q1, q2⟩ := Bool.and_eq_true_iff.mp q
      refine wpAny_storeSet_of hr rfl ?_ (fits_of_scanBound hb)
      refine h _ (Heap.SameBut.update ..) ⟨_, _, _, fz_store hr, hx, hlen ▸ hb, hf, ?_, ?_⟩
      · show to.mask = mask
        rw [← m₂]; exact (eq_of_beq q1).symm
      · show to.dummies = #[]
        simpa using q2
    · rw [if_neg q]
      obtain ⟨t', order, e, hpm, h1, h2, h3⟩ := laid_found (mask := T.mask) (m₂.symm ▸ hok) T.finger T.moves (T.led && to.led) (T.plain && to.plain) (es.map (·.1)) (by rw [Array.size_map, hlen, m₂]; exact hn)
      rw [Array.size_map] at hpm h3
      dsimp only
      rw [e]
      refine wpAny_bind (wp_reordered (t := t') (order := order) rfl hpm ?_)
      have hpp := pick_perm hpm
      have hx' := hx.perm hpp
      refine wpAny_storeSet_of hr rfl ?_ (fits_of_scanBound (by rw [hx'.2.2, ← hlen]; exact hb))
      refine h _ (Heap.SameBut.update ..) ⟨_, _, _, fz_store hr, hx', hlen ▸ hb, ?_, h1.trans m₂, h2⟩
      unfold SetTable.fits SetTable.fill
      rw [h2, h3, hlen, hx'.2.2, h1, m₂]
      simpa using hn
end
end Mine
end

-- part T5
section
open PySem PySem.W PySem.Calls PyProof.Rows
set_option Elab.async false
namespace Mine
open SetTable

namespace Fz
theorem sub_set : isSubtype (.type "frozenset") (.type "set") = pure false := by rw [isSubtype_type]; kernel_rfl
end Fz

section
variable {w : World} {A : Around} {E : Value → Shared → Prop} {s : Shared} {a r o : Addr} {ks : List Str} {k : Str}

/-- a set of one -/
theorem fz_one {h : Heap} (hS : FzAt w h a [k]) : ∃ ep tb t, h.get? a = some { cls := .type "frozenset", data := .set #[((sk w).hash k, .str k t)] ep tb } ∧ tb.fits 1 = true := by
  obtain ⟨es, ep, tb, ho, hel, hmem, hb, hf, hlen⟩ := hS
  obtain ⟨l⟩ := es
  obtain ⟨e, rfl⟩ := List.length_eq_one_iff.mp (show l.length = 1 from hlen)
  obtain ⟨⟨k', hk', hh⟩, _⟩ := hel e (.head _)
  obtain ⟨t, ht⟩ := Value.isStrOf_shape hk'
  have : k' ∈ [k] := (hmem k').mpr ⟨e, .head _, hk'⟩
  rw [List.mem_singleton] at this
  subst this
  obtain ⟨e1, e2⟩ := e
  simp only at hh ht
  subst hh ht
  exact ⟨ep, tb, t, ho, hf⟩

theorem fz_walk1 {e : Int × Value} {ep : Nat} {tb : SetTable} {Q : Array (Int × Value) → Shared → Prop} (ho : s.heap.get? a = some { cls := .type "frozenset", data := .set #[e] ep tb }) (hf : tb.fits 1 = true) (h : Q #[e] s) :
    wpAny (model pw w) A (setWalk a) Q E s := by
  unfold setWalk setsByText
  refine wpAny_bind (wpAny_setState_of ho rfl hf ?_)
  dsimp only
  refine wpAny_bind (wpAny_bind (wpAny_askSetting (wpAny_pure ?_)))
  split
  · refine wpAny_bind (wpAny_askSetting (wpAny_pure ?_))
    have e1 : ∀ next : Nat → Nat, pickOrder next #[e] = #[e] := fun next => by
      unfold pickOrder
      simp [pickOrder.go, Nat.mod_one]
    rw [e1]; exact h
  · show wpAny _ _ (if (!tb.plain && decide (1 > 1)) = true then _ else _) _ _ _
    rw [show (!tb.plain && decide (1 > 1)) = false by simp, if_neg (by decide)]
    refine wpAny_bind ?_
    show wpAny _ _ (if (!tb.led && decide (1 > 1)) = true then _ else _) _ _ _
    rw [show (!tb.led && decide (1 > 1)) = false by simp, if_neg (by decide)]
    exact wpAny_pure (wpAny_pure h)
theorem fz_unseen1 {e : Int × Value} {ep : Nat} {tb : SetTable} {others : List Addr} {filled : Option Addr} {Q : Array (Int × Value) → Shared → Prop} (ho : s.heap.get? a = some { cls := .type "frozenset", data := .set #[e] ep tb }) (hf : tb.fits 1 = true) (h : Q #[e] s) :
    wpAny (model pw w) A (setWalkUnseen a others filled) Q E s := by
  unfold setWalkUnseen setsByText
  refine wpAny_bind (wpAny_setState_of ho rfl hf ?_)
  dsimp only
  refine wpAny_bind (wpAny_bind (wpAny_askSetting (wpAny_pure ?_)))
  rw [if_pos (by simp)]
  exact fz_walk1 ho hf h

theorem fz_merge1 {mask : Nat} {each : Sem Unit} {Q : Unit → Shared → Prop} (hS : FzM w s.heap r ks mask) (hO : FzAt w s.heap o [k]) (hro : r ≠ o) (hroom : (ks.length + 1) * 5 < mask * 3) (hne : ks ≠ []) (hb : ks.length + 1 < scanBound)
    (heach : ∀ (s₁ : Shared) (Q' : Unit → Shared → Prop), s₁.heap.get? o = s.heap.get? o → Q' () s₁ → wpAny (model pw w) A each Q' E s₁)
    (h : ∀ h', Heap.SameBut r s.heap h' → FzAt w h' r (if k ∈ ks then ks else ks ++ [k]) → Q () { s with heap := h' }) :
    wpAny (model pw w) A (setMerge r o each) Q E s := by
  have hSA := hS.at
  obtain ⟨es, epr, tr, hr, hx, hbs, hfr, hm, hd⟩ := hS
  obtain ⟨ep, tb, t, ho, hf⟩ := fz_one hO
  have hkl : 0 < ks.length := by cases ks with | nil => exact absurd rfl hne | cons _ _ => simp
  have hps : tr.place.size = ks.length := by
    unfold SetTable.fits at hfr
    have := (Bool.and_eq_true_iff.mp hfr).1
    rw [← hx.2.2]; exact eq_of_beq this
  have hfill : tr.fill = ks.length := by unfold SetTable.fill; rw [hps, hd]; rfl
  unfold setMerge
  rw [if_neg (by simpa using hro)]
  refine wpAny_bind (wpAny_setState_of ho rfl hf ?_)
  dsimp only
  rw [if_neg (by simp)]
  unfold setRoomFor
  refine wpAny_bind (wpAny_bind (wpAny_setState_of hr rfl hfr ?_))
  have hrf : tr.roomFor 1 = none := by unfold SetTable.roomFor; rw [hfill, hm, if_neg (by omega)]
  dsimp only
  rw [show (#[((sk w).hash k, Value.str k t)] : Array (Int × Value)).size = 1 from rfl, hrf]
  refine wpAny_pure ?_
  refine wpAny_bind (wpAny_setState_of hr rfl hfr ?_)
  dsimp only
  have hroad : tr.road tb = .oneByOne := by
    unfold SetTable.road
    rw [hfill, if_pos (by simp; omega)]
  rw [hroad]
  dsimp only
  refine wpAny_bind (fz_unseen1 ho hf ?_)
  simp only [List.forIn_toArray, List.forIn_cons, List.forIn_nil]
  refine wpAny_bind (wpAny_bind (wpAny_bind (wpAny_holding (fz_add hSA hb fun h₁ b₁ F₁ => ?_))))
  have hoe : h₁.get? o = s.heap.get? o := b₁.2 o (Ne.symm hro)
  refine wpAny_bind (heach _ _ hoe ?_)
  refine wpAny_bind (wpAny_setState_of (hoe.trans ho) rfl hf ?_)
  dsimp only
  rw [if_neg (by simp)]
  refine wpAny_pure ?_
  exact wpAny_pure (wpAny_pure (h h₁ b₁ F₁))

theorem fz_copy {mask : Nat} {Q : Value → Shared → Prop} (hS : FzAt w s.heap a ks) (hne : ks ≠ []) (hm : roomMask ks.length = mask) (hok : ringOk mask = true) (hn : ks.length ≤ mask) (hz : sizeAbove (ks.length * 2) ≤ 100000)
    (h : ∀ s' r, Same s s' → s.heap.StaysIn s'.heap → s.heap.objs.size ≤ r → FzM w s'.heap r ks mask → Q (.ref r) s') :
    wpAny (model pw w) A (Builtin.Frozenset.copyOf a) Q E s := by
  unfold Builtin.Frozenset.copyOf Builtin.Frozenset.baseOf
  refine wpAny_bind (wpAny_bind (wpAny_isInstance hS.typeIs Fz.sub_set (wpAny_pure ?_)))
  simp only [Bool.false_eq_true, if_false]
  refine wpAny_bind (fz_new fun led F => ?_)
  have hlt : a < s.heap.objs.size := by obtain ⟨_, _, _, e, _⟩ := hS; exact Heap.lt_size e
  unfold Builtin.Frozenset.addrOf
  refine wpAny_bind (wpAny_pure ?_)
  refine wpAny_bind (fz_mergeNew (s := { s with heap := s.heap.push { cls := .type "frozenset", data := .set #[] 0 (.fresh 0 0 led) } }) (hS.keeps fun _ _ e => Heap.get?_push_of_some _ e) hne (Nat.ne_of_gt hlt) (Heap.get?_push_size _ rfl) hm hok hn hz fun h' b' F' => wpAny_pure ?_)
  exact h _ _ ⟨rfl, rfl⟩ (fun b o e => (b'.2 b (Nat.ne_of_lt (Heap.lt_size e))).trans (Heap.get?_push_of_some _ e)) (Nat.le_refl _) F'
end
end Mine
end

-- part T6
section
open PySem PySem.W PySem.Calls PyProof.Rows
set_option Elab.async false
set_option maxRecDepth 100000
namespace Mine
open SetTable

namespace Fz
theorem fills_or : fillsNumberSlot (.type "frozenset") Operator.BitOr.info.2 = pure true := by kernel_rfl
theorem fills_sub : fillsNumberSlot (.type "frozenset") Operator.Sub.info.2 = pure true := by kernel_rfl
theorem slot_or : Slot "frozenset" (dunder Operator.BitOr.info.2) "frozenset.__or__" :=
  .of (owner := "frozenset") (n := "__or__") (by rw [typeLookup_type, builtinLookup_eq_fast]; kernel_rfl) (by decide +kernel) (by decide +kernel) (by decide +kernel)
    (by first | exact .inl (by decide +kernel) | exact .inr (by decide +kernel)) (by rw [isSubtype_type]; kernel_rfl)
theorem slot_sub : Slot "frozenset" (dunder Operator.Sub.info.2) "frozenset.__sub__" :=
  .of (owner := "frozenset") (n := "__sub__") (by rw [typeLookup_type, builtinLookup_eq_fast]; kernel_rfl) (by decide +kernel) (by decide +kernel) (by decide +kernel)
    (by first | exact .inl (by decide +kernel) | exact .inr (by decide +kernel)) (by rw [isSubtype_type]; kernel_rfl)
theorem args_or (a b : Value) : argsOk "frozenset.__or__" ⟨[a, b], []⟩ := by unfold argsOk; kernel_rfl
theorem args_sub (a b : Value) : argsOk "frozenset.__sub__" ⟨[a, b], []⟩ := by unfold argsOk; kernel_rfl
theorem entry_or : entryFor table "frozenset.__or__" = some Builtin.«frozenset.__or__» := entryFor_of_tree (by kernel_rfl)
theorem entry_sub : entryFor table "frozenset.__sub__" = some Builtin.«frozenset.__sub__» := entryFor_of_tree (by kernel_rfl)
end Fz

section
variable {w : World} {A : Around} {E : Value → Shared → Prop} {s : Shared} {a b : Addr} {ks : List Str} {k : Str}

theorem fz_isAny {Q : Bool → Shared → Prop} (hS : FzAt w s.heap a ks) (h : Q true s) : wpAny (model pw w) A (Builtin.Frozenset.isAnySet (.ref a)) Q E s := by
  unfold Builtin.Frozenset.isAnySet
  refine wpAny_bind (m := isInstance (.ref a) (.type "set")) (wpAny_isInstance hS.typeIs Fz.sub_set ?_)
  show wpAny (model pw w) A (isInstance (.ref a) (.type "frozenset")) _ _ s
  exact wpAny_isInstance hS.typeIs Fz.sub_self h

theorem fz_or {mask : Nat} {Q : Value → Shared → Prop} (hS : FzAt w s.heap a ks) (hO : FzAt w s.heap b [k]) (hab : a ≠ b) (hne : ks ≠ []) (hm : roomMask ks.length = mask) (hok : ringOk mask = true) (hn : ks.length ≤ mask) (hz : sizeAbove (ks.length * 2) ≤ 100000)
    (hroom : (ks.length + 1) * 5 < mask * 3) (hb : ks.length + 1 < scanBound)
    (h : ∀ s' r, Same s s' → s.heap.StaysIn s'.heap → s.heap.objs.size ≤ r → FzAt w s'.heap r (if k ∈ ks then ks else ks ++ [k]) → Q (.ref r) s') :
    wpAny (model pw w) A (binaryOp .BitOr (.ref a) (.ref b)) Q E s := by
  refine wpAny_binaryOp_same hS.typeIs hO.typeIs Fz.fills_or Fz.slot_or (wpAny_call_entry Fz.slot_or hS.typeIs Fz.entry_or ?_ (Fz.args_or _ _))
  unfold Builtin.«frozenset.__or__»
  show wpAny _ _ (_ >>= _) _ _ _
  refine wpAny_bind ?_
  unfold Builtin.Frozenset.slot1
  refine wpAny_bind (wpAny_of_eq (a := (Value.ref a, [Value.ref b])) (by rfl) (wpAny_pure ?_))
  dsimp only
  rw [if_neg (by decide)]
  dsimp only
  refine wpAny_bind (wpAny_bind (m := Builtin.Frozenset.isAnySet (.ref a)) (fz_isAny hS ?_))
  show wpAny _ _ (Builtin.Frozenset.isAnySet (.ref b)) _ _ _
  refine fz_isAny hO ?_
  rw [if_neg (by decide)]
  unfold Builtin.Frozenset.addrOf
  refine wpAny_bind (wpAny_pure (wpAny_bind ?_))
  show wpAny _ _ (_ >>= _) _ _ _
  refine wpAny_bind (fz_copy hS hne hm hok hn hz fun s₁ r S₁ k₁ hr F₁ => ?_)
  have hO₁ := hO.keeps k₁
  have hlt : b < s.heap.objs.size := by obtain ⟨_, _, _, e, _⟩ := hO; exact Heap.lt_size e
  have hrb : r ≠ b := Nat.ne_of_gt (Nat.lt_of_lt_of_le hlt hr)
  rw [if_pos (by simpa using Ne.symm hab)]
  unfold Builtin.Frozenset.addrOf
  refine wpAny_bind (wpAny_pure (wpAny_bind (wpAny_holding ?_)))
  unfold Builtin.Frozenset.updateFrom
  refine wpAny_bind (fz_isAny hO₁ ?_)
  rw [if_pos rfl]
  unfold Builtin.Frozenset.addrOf
  refine wpAny_bind (wpAny_pure ?_)
  unfold Builtin.Frozenset.merge setEpoch
  obtain ⟨ep, tb, t, ho, hf⟩ := fz_one hO₁
  refine wpAny_bind (wpAny_bind (wpAny_setState_of ho rfl hf (wpAny_pure ?_)))
  refine fz_merge1 F₁ hO₁ hrb hroom hne hb (fun s₂ Q' e₂ hq => ?_) fun h' b' F' => ?_
  · unfold Builtin.Frozenset.unchanged setEpoch
    refine wpAny_bind (wpAny_bind (wpAny_setState_of (e₂.trans ho) rfl hf (wpAny_pure ?_)))
    rw [if_neg (by simp)]
    exact wpAny_pure hq
  · refine wpAny_pure (wpAny_pure ⟨_, rfl, (fun z => nomatch z), ?_⟩)
    exact h _ r S₁ (fun c o e => (b'.2 c (Nat.ne_of_lt (Nat.lt_of_lt_of_le (Heap.lt_size e) hr))).trans (k₁ _ _ e)) hr F'
end
end Mine
end

-- part T7
section
open PySem PySem.W PySem.Calls PyProof.Rows
set_option Elab.async false
set_option maxRecDepth 100000
namespace Mine
open SetTable

def keyOf : Value → Str | .str s _ => s | _ => default
theorem is_key {w : World} {k : Str} {v : Value} (h : (sk w).is k v = true) : keyOf v = k := by
  obtain ⟨t, rfl⟩ := Value.isStrOf_shape h; rfl

theorem perm_of_cover {α : Type} [DecidableEq α] : ∀ (ks l : List α), ks.Nodup → l.length = ks.length → (∀ k ∈ ks, k ∈ l) → l.Perm ks
  | [], l, _, hl, _ => by
    have : l = [] := List.length_eq_zero_iff.mp hl
    rw [this]
  | k :: ks, l, hn, hl, hm => by
    have hk := hm k (.head _)
    obtain ⟨hk', hn'⟩ := List.nodup_cons.mp hn
    have ih := perm_of_cover ks (l.erase k) hn' (by rw [List.length_erase_of_mem hk, hl]; simp) fun k' h' => (List.mem_erase_of_ne (fun (q : k' = k) => hk' (q ▸ h'))).mpr (hm k' (.tail _ h'))
    exact (List.perm_cons_erase hk).trans (ih.cons k)

theorem Ents.keys {w : World} {es : Array (Int × Value)} {ks : List Str} (x : Ents w es ks) (hn : ks.Nodup) : (es.toList.map fun e => keyOf e.2).Perm ks := by
  refine perm_of_cover ks _ hn (by rw [List.length_map, Array.length_toList]; exact x.2.2) fun k hk => ?_
  obtain ⟨e, he, q⟩ := (x.2.1 k).mp hk
  exact List.mem_map.mpr ⟨e, he, is_key q⟩

theorem eraseAt_toList {α : Type} (es : Array α) (i : Nat) (h : i < es.size) : (eraseAt es i).toList = es.toList.eraseIdx i := by
  unfold eraseAt
  rw [Array.toList_append, List.eraseIdx_eq_take_drop_succ]
  simp
  exact List.take_of_length_le (by simp)

theorem eraseIdx_perm {α : Type} : ∀ (l : List α) (i : Nat) (e : α), l[i]? = some e → l.Perm (e :: l.eraseIdx i)
  | [], i, e, h => by simp at h
  | x :: l, 0, e, h => by
    simp at h; subst h; exact .refl _
  | x :: l, i + 1, e, h => by
    have ih := eraseIdx_perm l i e (by simpa using h)
    rw [List.eraseIdx_cons_succ]
    exact (ih.cons x).trans (.swap e x _)
theorem Ents.erase {w : World} {es : Array (Int × Value)} {ks : List Str} (x : Ents w es ks) (hn : ks.Nodup) {i : Nat} {e : Int × Value} {k : Str} (hi : es.toList[i]? = some e) (hk : (sk w).is k e.2 = true) :
    ∃ ks', Ents w (eraseAt es i) ks' ∧ ks'.length + 1 = ks.length ∧ ∀ y, y ∈ ks' ↔ y ∈ ks ∧ y ≠ k := by
  have hlt : i < es.toList.length := (List.getElem?_eq_some_iff.mp hi).1
  have hlt' : i < es.size := by simpa using hlt
  have hp : es.toList.Perm (e :: es.toList.eraseIdx i) := eraseIdx_perm _ _ _ hi
  have hkp : ks.Perm (k :: (es.toList.eraseIdx i).map fun e => keyOf e.2) := by
    have h1 := (x.keys hn).symm
    have h2 := hp.map fun e => keyOf e.2
    rw [List.map_cons, is_key hk] at h2
    exact h1.trans h2
  have hnd := (hkp.nodup_iff).mp hn
  obtain ⟨hk', _⟩ := List.nodup_cons.mp hnd
  refine ⟨(es.toList.eraseIdx i).map fun e => keyOf e.2, ⟨?_, fun y => ?_, ?_⟩, ?_, fun y => ?_⟩
  · rw [eraseAt_toList es i hlt']
    exact fun e' he' => x.1 e' (List.mem_of_mem_eraseIdx he')
  · rw [eraseAt_toList es i hlt', List.mem_map]
    constructor
    · rintro ⟨e', he', rfl⟩
      obtain ⟨⟨k', q, _⟩, _⟩ := x.1 e' (List.mem_of_mem_eraseIdx he')
      exact ⟨e', he', by rw [is_key q]; exact q⟩
    · rintro ⟨e', he', q⟩
      exact ⟨e', he', is_key q⟩
  · rw [← Array.length_toList, eraseAt_toList es i hlt', List.length_map]
  · have := hkp.length_eq
    simpa using this.symm
  · rw [hkp.mem_iff, List.mem_cons]
    constructor
    · exact fun h => ⟨.inr h, fun q => hk' (q ▸ h)⟩
    · rintro ⟨h | h, hne⟩
      · exact absurd h hne
      · exact h
end Mine
end

-- part T8
section
open PySem PySem.W PySem.Calls PyProof.Rows
set_option Elab.async false
set_option maxRecDepth 100000
namespace Mine
open SetTable

theorem eraseAt_size {α : Type} (es : Array α) (i : Nat) (h : i < es.size) : (eraseAt es i).size = es.size - 1 := by
  rw [← Array.length_toList, eraseAt_toList es i h, List.length_eraseIdx, Array.length_toList, if_pos h]
theorem insertAt_size {α : Type} (es : Array α) (p : Nat) (x : α) (h : p ≤ es.size) : (insertAt es p x).size = es.size + 1 := by
  unfold insertAt; simp; omega

section
variable {w : World} {A : Around} {E : Value → Shared → Prop} {s : Shared} {a b : Addr} {ks : List Str} {k : Str}

theorem fz_findI {es : Array (Int × Value)} {ep : Nat} {tb : SetTable} {t : Tok} {Q : Option Nat → Shared → Prop} (ho : s.heap.get? a = some { cls := .type "frozenset", data := .set es ep tb }) (hx : Ents w es ks) (hb : ks.length < scanBound) (hf : tb.fits es.size = true) (hk : k ∈ ks)
    (h : ∀ i e, es.toList[i]? = some e → (sk w).is k e.2 = true → Q (some i) s) :
    wpAny (model pw w) A (setFind a (.str k t) ((sk w).hash k)) Q E s := by
  have hkey : (sk w).is k (.str k t) = true := PySem.strKind_is pw w k t
  have hb' : es.size < scanBound := by rw [hx.2.2]; exact hb
  unfold setFind setFindIn
  refine wpAny_bind (wpAny_setState_of ho rfl hf ?_)
  dsimp only
  rw [byScan_of rfl hb' hx.1]
  simp only [↓reduceIte]
  refine wpAny_bind (wpAny_rule ?_)
  refine wpAny_bind (wpAny_setScan_of hkey ho rfl hf hx.1 ?_)
  cases hr : List.findIdx? (fun e => (sk w).is k e.2) es.toList with
  | none =>
    obtain ⟨e, he, hpe⟩ := (hx.2.1 k).mp hk
    have := List.findIdx?_eq_none_iff.mp hr e he
    rw [hpe] at this; cases this
  | some j =>
    obtain ⟨hj, hpj, _⟩ := List.findIdx?_eq_some_iff_getElem.mp hr
    refine wpAny_pure ?_
    rw [Nat.zero_add]
    exact h j es.toList[j] (List.getElem?_eq_getElem hj) hpj

theorem fz_discard {mask : Nat} {t : Tok} {Q : Bool → Shared → Prop} (hS : FzM w s.heap a ks mask) (hnd : ks.Nodup) (hk : k ∈ ks) (hm : 8 ≤ mask)
    (h : ∀ h' ks', Heap.SameBut a s.heap h' → (∃ es ep tb, h'.get? a = some { cls := .type "frozenset", data := .set es ep tb } ∧ Ents w es ks' ∧ ks'.length < scanBound ∧ tb.fits es.size = true ∧ tb.tooManyDummies = false) → (∀ y, y ∈ ks' ↔ y ∈ ks ∧ y ≠ k) → Q true { s with heap := h' }) :
    wpAny (model pw w) A (setDiscardHashed a (.str k t) ((sk w).hash k)) Q E s := by
  obtain ⟨es, ep, tb, ho, hx, hb, hf, hmk, hd⟩ := hS
  unfold setDiscardHashed
  refine wpAny_bind (fz_findI ho hx hb hf hk fun i e hi hke => ?_)
  dsimp only
  refine wpAny_bind (wpAny_setState_of ho rfl hf ?_)
  dsimp only
  obtain ⟨ks', hx', hl', hmem⟩ := hx.erase hnd hi hke
  have hlt : i < es.size := by have := (List.getElem?_eq_some_iff.mp hi).1; simpa using this
  have hps : tb.place.size = es.size := eq_of_beq (Bool.and_eq_true_iff.mp hf).1
  have hfl : tb.fill ≤ tb.mask := of_decide_eq_true (Bool.and_eq_true_iff.mp hf).2
  have hpi : tb.place[i]? = some tb.place[i] := Array.getElem?_eq_getElem (by rw [hps]; exact hlt)
  have hdrop : tb.drop i = { tb with place := eraseAt tb.place i, dummies := insertAt tb.dummies (below tb.dummies tb.place[i]) tb.place[i] } := by
    unfold SetTable.drop; rw [hpi]
  have hbel : below tb.dummies tb.place[i] ≤ tb.dummies.size := by rw [hd]; exact Nat.le_refl 0
  have h1 : (tb.drop i).place.size = es.size - 1 := by rw [hdrop]; show (eraseAt tb.place i).size = _; rw [eraseAt_size _ _ (by rw [hps]; exact hlt), hps]
  have h2 : (tb.drop i).dummies.size = 1 := by rw [hdrop]; show (insertAt _ _ _).size = _; rw [insertAt_size _ _ _ hbel, hd]; rfl
  have h3 : (tb.drop i).mask = tb.mask := by rw [hdrop]
  have hb' : ks'.length < scanBound := by omega
  refine wpAny_bind (wpAny_storeSet_of ho rfl ?_ (fits_of_scanBound (by rw [hx'.2.2]; exact hb')))
  refine wpAny_bind (wpAny_point (wpAny_pure (h _ ks' (Heap.SameBut.update ..) ⟨_, _, _, fz_store ho, hx', hb', ?_, ?_⟩ hmem)))
  · unfold SetTable.fits SetTable.fill
    unfold SetTable.fill at hfl
    rw [h1, h2, h3, eraseAt_size _ _ hlt]
    simp
    rw [hps, hd] at hfl
    simp at hfl
    omega
  · unfold SetTable.tooManyDummies
    rw [h2, h3, hmk]
    simp
    omega
end
end Mine
end

-- part T9
section
open PySem PySem.W PySem.Calls PyProof.Rows
set_option Elab.async false
set_option maxRecDepth 100000
namespace Mine
open SetTable

section
variable {w : World} {A : Around} {E : Value → Shared → Prop} {s : Shared} {a b : Addr} {ks : List Str} {k : Str}

theorem fz_sizeOf {Q : Nat → Shared → Prop} (hS : FzAt w s.heap a ks) (h : Q ks.length s) : wpAny (model pw w) A (Builtin.Frozenset.sizeOf a) Q E s := by
  obtain ⟨es, ep, tb, ho, hel, hmem, hb, hf, hlen⟩ := hS
  unfold Builtin.Frozenset.sizeOf setEntries
  refine wpAny_bind (wpAny_bind (wpAny_setState_of ho rfl hf (wpAny_pure (wpAny_pure ?_))))
  dsimp only
  rw [hlen]; exact h

theorem fz_sub {mask : Nat} {Q : Value → Shared → Prop} (hS : FzAt w s.heap a ks) (hO : FzAt w s.heap b [k]) (hne : ks ≠ []) (hnd : ks.Nodup) (hk : k ∈ ks) (hbig : ks.length / 4 > 1) (hm : roomMask ks.length = mask) (hok : ringOk mask = true) (hn : ks.length ≤ mask) (h8 : 8 ≤ mask) (hz : sizeAbove (ks.length * 2) ≤ 100000)
    (h : ∀ s' r ks', Same s s' → s.heap.StaysIn s'.heap → s.heap.objs.size ≤ r → FzAt w s'.heap r ks' → (∀ y, y ∈ ks' ↔ y ∈ ks ∧ y ≠ k) → Q (.ref r) s') :
    wpAny (model pw w) A (binaryOp .Sub (.ref a) (.ref b)) Q E s := by
  refine wpAny_binaryOp_same hS.typeIs hO.typeIs Fz.fills_sub Fz.slot_sub (wpAny_call_entry Fz.slot_sub hS.typeIs Fz.entry_sub ?_ (Fz.args_sub _ _))
  unfold Builtin.«frozenset.__sub__»
  show wpAny _ _ (_ >>= _) _ _ _
  refine wpAny_bind ?_
  unfold Builtin.Frozenset.slot1
  refine wpAny_bind (wpAny_of_eq (a := (Value.ref a, [Value.ref b])) (by rfl) (wpAny_pure ?_))
  dsimp only
  rw [if_neg (by decide)]
  dsimp only
  refine wpAny_bind (wpAny_bind (m := Builtin.Frozenset.isAnySet (.ref a)) (fz_isAny hS ?_))
  show wpAny _ _ (Builtin.Frozenset.isAnySet (.ref b)) _ _ _
  refine fz_isAny hO ?_
  rw [if_neg (by decide)]
  unfold Builtin.Frozenset.addrOf
  refine wpAny_bind (wpAny_pure (wpAny_bind ?_))
  unfold Builtin.Frozenset.difference
  refine wpAny_bind (fz_isAny hO ?_)
  dsimp only
  rw [if_neg (by decide)]
  unfold Builtin.Frozenset.addrOf
  refine wpAny_bind (wpAny_pure ?_)
  rw [if_neg (by simp)]
  refine wpAny_bind ?_
  refine fz_sizeOf hO ?_
  refine wpAny_bind (fz_sizeOf hS ?_)
  rw [if_pos (show ks.length / 4 > [k].length from hbig)]
  refine wpAny_bind (wpAny_rule ?_)
  refine wpAny_bind (fz_copy hS hne hm hok hn hz fun s₁ r S₁ k₁ hr F₁ => ?_)
  have hO₁ := hO.keeps k₁
  have hlt : b < s.heap.objs.size := by obtain ⟨_, _, _, e, _⟩ := hO; exact Heap.lt_size e
  have hrb : r ≠ b := Nat.ne_of_gt (Nat.lt_of_lt_of_le hlt hr)
  obtain ⟨ep, tb, t, ho, hf⟩ := fz_one hO₁
  refine wpAny_bind (wpAny_pure (wpAny_bind (wpAny_holding ?_)))
  unfold Builtin.Frozenset.differenceUpdate
  rw [if_neg (by simpa using Ne.symm hrb)]
  refine wpAny_bind ?_
  refine fz_isAny hO₁ ?_
  rw [if_pos rfl]
  unfold Builtin.Frozenset.addrOf
  refine wpAny_bind (wpAny_pure ?_)
  refine wpAny_bind (fz_sizeOf hO₁ ?_)
  refine wpAny_bind (fz_sizeOf F₁.at ?_)
  rw [if_neg (by simp)]
  unfold setEpoch
  refine wpAny_bind (wpAny_bind (wpAny_setState_of ho rfl hf (wpAny_pure ?_)))
  dsimp only
  refine wpAny_bind (wpAny_holding (wpAny_bind (fz_unseen1 ho hf ?_)))
  simp only [List.forIn_toArray, List.forIn_cons, List.forIn_nil]
  refine wpAny_bind (wpAny_bind (wpAny_bind (wpAny_holding (fz_discard F₁ hnd hk h8 fun h₂ ks' b₂ hF₂ hmem => ?_))))
  have hoe : h₂.get? b = s₁.heap.get? b := b₂.2 b (Ne.symm hrb)
  unfold Builtin.Frozenset.unchanged setEpoch
  refine wpAny_bind (wpAny_bind (wpAny_bind (wpAny_setState_of (hoe.trans ho) rfl hf (wpAny_pure ?_))))
  rw [if_neg (by simp)]
  refine wpAny_pure (wpAny_pure (wpAny_pure (wpAny_pure ?_)))
  obtain ⟨es, ep2, tb2, e2, x2, hb2, hf2, htd⟩ := hF₂
  unfold setTidy
  refine wpAny_bind (wpAny_setState_of e2 rfl hf2 ?_)
  dsimp only
  rw [htd, if_neg (by decide)]
  refine wpAny_pure (wpAny_pure (wpAny_pure ⟨_, rfl, (fun z => nomatch z), ?_⟩))
  exact h _ r ks' S₁ (fun c o e => (b₂.2 c (Nat.ne_of_lt (Nat.lt_of_lt_of_le (Heap.lt_size e) hr))).trans (k₁ _ _ e)) hr (.mk e2 x2 hb2 hf2) hmem
end
end Mine
end

-- part T10
section
open PySem PySem.W PySem.Calls PyProof.Rows
set_option Elab.async false
set_option maxRecDepth 100000
namespace Mine

section
variable {w : World} {A : Around} {E : Value → Shared → Prop} {s : Shared}

/-- the last next of a generator expression: it is finished -/
theorem genexp_done {a : Addr} {g : Nat} {C : Addr} {fp wr : List Addr} {pz : Nat → Bool} {n₀ : Nat} {F : Nat → Value → Prop} {Q : Option Value → Shared → Prop} (hh : A.handled = none) (hroom : A.depth < recursionLimit)
    (st : GenAt pw w A a g C fp wr pz n₀ F (passing pz n₀ 0).length s)
    (hQ : ∀ s', (∀ b o, b ∉ C :: wr → s.heap.get? b = some o → s'.heap.get? b = some o) → GenOnly g s.gens s'.gens → s'.gens[g]? = some .finished → s'.os = s.os → Q none s') :
    wpAny (model pw w) A (pyNext (.ref a)) Q E s := by
  obtain ⟨hg, hl, gs, hgs, hgo⟩ := st
  rw [Nat.sub_self] at hgo
  refine wpAny_pyNext_genexp (P := fun n s₀ s₁ => n = 0 ∧ GenSince C wr s₀ s₁) hh hl hroom hg hgs (hgo _ fun _ _ _ e => e) (fun v s₁ gs' hv => ?_) (fun s₁ hp h' hk => ?_)
  · obtain ⟨_, _, hkap⟩ := hv
    exact False.elim (hkap s₁ fun _ _ _ e => e)
  · obtain ⟨_, h₁, tk₁, rfl, hk₁⟩ := hp
    exact hQ _ (fun b o hb e => hk b o (hk₁ b o (fun h => hb (h ▸ List.mem_cons_self ..)) (fun h => hb (List.mem_cons_of_mem _ h)) e)) ((GenOnly.setGen s g .running).trans (GenOnly.setGen _ g .finished)) (setGen_self (gs := .running) (setGen_self hgs)) rfl
end
end Mine
end

-- part T11
section
open PySem PySem.W PySem.Calls PyProof.Rows
set_option Elab.async false
set_option maxRecDepth 100000
namespace Mine

section
variable {w : World} {A : Around} {E : Value → Shared → Prop} {s : Shared} {a : Addr}

theorem fz_loopG {I : Addr} {fp wr : List Addr} {g n : Nat} {P : Nat → Value → Prop} {St : Nat → Shared → Prop} {R : Result → Shared → Prop} (W : WalksS pw w A.in1 I fp wr (GenOnly g) n P St) (hSf : a ∉ fp)
    (hdone : ∀ (s₁ : Shared) (Q : Option Value → Shared → Prop) (E : Value → Shared → Prop), St n s₁ → (∀ s', (∀ b o, b ∉ wr → s₁.heap.get? b = some o → s'.heap.get? b = some o) → GenOnly g s₁.gens s'.gens → s'.gens[g]? = some .finished → s'.os = s₁.os → Q none s') → wpAny (model pw w) A.in1 (pyNext (.ref I)) Q E s₁)
    (val : Nat → Str) (hval : ∀ i v, P i v → ∃ t, v = .str (val i) t) (hb : n + 1 < scanBound)
    (hst : St 0 s) (hS : FzAt w s.heap a [])
    (hR : ∀ s', s'.os = s.os → GenOnly g s.gens s'.gens → s'.gens[g]? = some .finished → (∀ b o, b ≠ a → b ∉ wr → s.heap.get? b = some o → s'.heap.get? b = some o) → FzAt w s'.heap a (addAll val n) → R (.ok (.ret .none)) s') :
    codeAny (model pw w) A (.builtin "set.update.loop" ⟨[.ref a, .ref I], []⟩) R s := by
  have key : ∀ (k i : Nat) (s₁ : Shared), n - i = k → i ≤ n → St i s₁ → FzAt w s₁.heap a (addAll val i) → s₁.os = s.os → GenOnly g s.gens s₁.gens → (∀ b o, b ≠ a → b ∉ wr → s.heap.get? b = some o → s₁.heap.get? b = some o) →
      codeAny (model pw w) A (.builtin "set.update.loop" ⟨[.ref a, .ref I], []⟩) R s₁ := by
    intro k
    induction k with
    | zero =>
      intro i s₁ hk hi hst hS os₁ g₁ hk₁
      have hin : i = n := by omega
      subst hin
      refine codeAny_builtin PyProof.Rows.F.entry_set_update_loop ?_
      rw [Around.under_plainId PyProof.Rows.F.plain_set_update_loop]
      unfold Builtin.«set.update.loop»
      refine wpAny_bind (hdone s₁ _ _ hst fun s' hk' g' f' os' => ?_)
      refine wpAny_pure (hR _ (os'.trans os₁) (g₁.trans g') f' (fun b o h1 h2 e => hk' b o h2 (hk₁ b o h1 h2 e)) ?_)
      obtain ⟨es, ep, tb, ho, r⟩ := hS
      exact ⟨es, ep, tb, hk' _ _ (fun q => hSf (W.sub _ q)) ho, r⟩
    | succ k ih =>
      intro i s₁ hk hi hst hS os₁ g₁ hk₁
      refine codeAny_builtin PyProof.Rows.F.entry_set_update_loop ?_
      rw [Around.under_plainId PyProof.Rows.F.plain_set_update_loop]
      unfold Builtin.«set.update.loop»
      refine wpAny_bind (W.item i s₁ _ _ (by omega) hst fun v s' hv hst' hmv => ?_)
      obtain ⟨hk', g', _, os', _⟩ := hmv
      obtain ⟨t, rfl⟩ := hval i v hv
      have hS' : FzAt w s'.heap a (addAll val i) := by
        obtain ⟨es, ep, tb, ho, r⟩ := hS
        exact ⟨es, ep, tb, hk' _ _ (fun q => hSf (W.sub _ q)) ho, r⟩
      have := addAll_len val i
      refine wpAny_bind (wpAny_holding (fz_setAdd (s := s') hS' (by omega) fun h₂ sb₂ hS₂ => ?_))
      refine wpAny_pure ⟨plainId_quiet PyProof.Rows.F.plain_set_update_loop _, ih (i + 1) _ (by omega) (by omega) ?_ hS₂ (os'.trans os₁) (g₁.trans g') fun b o h1 h2 e => ?_⟩
      · exact W.frame _ _ _ _ hst' (Nat.le_succ _) fun b hb o e => sb₂.extBut b o (fun q => hSf (q ▸ hb)) e
      · exact sb₂.extBut b o h1 (hk' b o h2 (hk₁ b o h1 h2 e))
  exact key n 0 s rfl (Nat.zero_le _) hst hS rfl ⟨rfl, fun _ _ => rfl⟩ fun _ _ _ _ e => e
end
end Mine
end

-- part T12
section
open PySem PySem.W PySem.Calls PyProof.Rows
set_option Elab.async false
set_option maxRecDepth 100000
namespace Mine
namespace Fz
theorem sub_gen_set : isSubtype (.type "generator") (.type "set") = pure false := by rw [isSubtype_type]; kernel_rfl
theorem sub_gen_fz : isSubtype (.type "generator") (.type "frozenset") = pure false := by rw [isSubtype_type]; kernel_rfl
end Fz

section
variable {w : World} {A : Around} {E : Value → Shared → Prop} {s : Shared}

theorem fz_of_gen {G : Addr} {g : Nat} {C : Addr} {fp wr : List Addr} {pz : Nat → Bool} {n₀ : Nat} {F : Nat → Value → Prop} {Q : Value → Shared → Prop} (hh : A.handled = none) (hroom : A.depth < recursionLimit)
    (st : GenAt pw w A.in1.in1.in1 G g C fp wr pz n₀ F 0 s) (haC : G ≠ C) (haf : G ∉ fp) (hsub : ∀ b ∈ wr, b ∈ fp) (hcs : cStatics ∈ fp) (hcC : cStatics ≠ C) (hcw : cStatics ∉ wr)
    (hlt : ∀ b ∈ G :: C :: fp, b < s.heap.objs.size) (val : Nat → Str) (hval : ∀ i v, (∃ j, (passing pz n₀ 0)[i]? = some j ∧ F j v) → ∃ t, v = .str (val i) t) (hb : (passing pz n₀ 0).length + 1 < scanBound)
    (h : ∀ s' a, s'.os = s.os → GenOnly g s.gens s'.gens → s'.gens[g]? = some .finished → (∀ b o, b ∉ C :: wr → s.heap.get? b = some o → s'.heap.get? b = some o) → s.heap.objs.size ≤ a → FzAt w s'.heap a (addAll val (passing pz n₀ 0).length) → Q (.ref a) s') :
    wpAny (model pw w) A (call (.type "frozenset") [.ref G]) Q E s := by
  have hT : s.TypeIs (.ref G) "generator" := st.1.typeIs
  refine fz_call (fz_new_head hT (by decide) fun led hS => ?_)
  have W : WalksS pw w A.in1.in1.in1 G (G :: C :: fp) (C :: wr) (GenOnly g) (passing pz n₀ 0).length (fun j y => ∃ i, (passing pz n₀ 0)[j]? = some i ∧ F i y) (GenAt pw w A.in1.in1.in1 G g C fp wr pz n₀ F) :=
    WalksS.genexp (A := A.in1.in1.in1) hh G g C fp wr pz n₀ F haC haf hsub hroom hcs hcC hcw
  have st₁ : GenAt pw w A.in1.in1.in1 G g C fp wr pz n₀ F 0 { s with heap := s.heap.push { cls := .type "frozenset", data := .set #[] 0 (.fresh 0 0 led) } } := W.frame 0 s _ s.toks st (Nat.le_refl _) fun b _ o e => Heap.get?_push_of_some _ e
  have hT₁ : ({ s with heap := s.heap.push { cls := .type "frozenset", data := .set #[] 0 (.fresh 0 0 led) } } : Shared).TypeIs (.ref G) "generator" := st₁.1.typeIs
  unfold Builtin.Frozenset.updateFrom Builtin.Frozenset.isAnySet
  refine wpAny_bind (wpAny_bind (m := isInstance (.ref G) (.type "set")) (wpAny_isInstance hT₁ Fz.sub_gen_set ?_))
  show wpAny (model pw w) A.in1.in1 (isInstance (.ref G) (.type "frozenset")) _ _ _
  refine wpAny_isInstance hT₁ Fz.sub_gen_fz ?_
  simp only [Bool.false_eq_true, if_false]
  refine wpAny_bind (wpAny_typeOf hT₁ ?_)
  rw [if_neg (by decide)]
  refine wpAny_bind (wpAny_pyIter_gen st₁.1 ?_)
  refine wpAny_bind (wpAny_runValue ?_)
  have hnm : s.heap.objs.size ∉ G :: C :: fp := fun q => Nat.lt_irrefl _ (hlt _ q)
  refine fz_loopG W hnm (fun s₁ Q₁ E₁ st₁ hQ₁ => genexp_done (A := A.in1.in1.in1) hh hroom st₁ hQ₁) val hval hb st₁ hS fun s' os' g' f' k' F' => ?_
  refine wpAny_pure ⟨_, rfl, F'.typeIs, h s' _ os' g' f' (fun b o hb' e => k' b o (Nat.ne_of_lt (Heap.lt_size e)) hb' (Heap.get?_push_of_some _ e)) (Nat.le_refl _) F'⟩
end
end Mine
end

-- part H5
section
open PySem PySem.W PySem.Calls PyProof.Rows
set_option Elab.async false
set_option maxRecDepth 100000
namespace Mine

theorem blt_boot (P : Params) (x : Str) (hx : x ≠ "__name__") : (boot_heap P).nsMap builtinsNs x = bootBuiltins x :=
  Heap.of_bltView (by kernel_rfl) (by kernel_rfl) x hx

section
variable {P : Params} {s : Shared} {l : List (Str × Value)} {c Pl F : Addr} {ps : List Value} {w : World} {A : Around} {E : Value → Shared → Prop}

theorem ldMB {x : Str} {pos : Pos} {v : Value} {Q : Value → Shared → Prop} (T : TP P s l c Pl ps) (hm : GM' P l x = none) (hv : bootBuiltins x = some v) (h : Q v s) (hn : x ≠ "__name__" := by decide) (hd : (x == ("__debug__" : Str)) = false := by decide) :
    wpAny (model pw w) A (eval (.Name x pos) (mainEnv pw c F)) Q E s :=
  Name_module rfl rfl (loadGlobal_builtin (env := mainEnv pw c F) T.main.g hm T.blt ((blt_boot P x hn).trans hv) h) hd
theorem ldMG {x : Str} {pos : Pos} {v : Value} {Q : Value → Shared → Prop} (T : TP P s l c Pl ps) (hv : GM' P l x = some v) (h : Q v s) (hd : (x == ("__debug__" : Str)) = false := by decide) :
    wpAny (model pw w) A (eval (.Name x pos) (mainEnv pw c F)) Q E s :=
  Name_module rfl rfl (loadGlobal_global (env := mainEnv pw c F) T.main.g hv h) hd
theorem mg0_none (P : Params) (x : Str) (h : x ∉ startupNames) : mg0 P x = none := by
  refine Heap.nsMap_none fun hk => h ?_
  have e : (boot_heap P).nsKeys mainGlobals = startupNames := by kernel_rfl
  rw [e] at hk
  exact hk
end
end Mine
end

-- part H6
section
open PySem PySem.W PySem.Calls PyProof.Rows
set_option Elab.async false
set_option maxRecDepth 100000
namespace Mine

/-- all behind the place list stays -/
def Kp (Pl : Addr) (s s' : Shared) : Prop := ∀ b o, Pl < b → s.heap.get? b = some o → s'.heap.get? b = some o
theorem Kp.trans {Pl : Addr} {a b c : Shared} (x : Kp Pl a b) (y : Kp Pl b c) : Kp Pl a c := fun d o h e => y d o h (x d o h e)
theorem Kp.grow {Pl : Addr} {s s' : Shared} (k : s.heap.StaysIn s'.heap) : Kp Pl s s' := fun b o _ e => k b o e
def FzT (w : World) (Pl : Addr) (s : Shared) (a : Addr) (ks : List Str) : Prop := Pl < a ∧ FzAt w s.heap a ks
theorem FzT.kp {w : World} {Pl : Addr} {s s' : Shared} {a : Addr} {ks : List Str} (x : FzT w Pl s a ks) (k : Kp Pl s s') : FzT w Pl s' a ks :=
  let ⟨es, ep, t, e, r⟩ := x.2; ⟨x.1, es, ep, t, k _ _ x.1 e, r⟩

section
variable {P : Params} {s : Shared} {l : List (Str × Value)} {c Pl F : Addr} {ps : List Value} {w : World} {A : Around} {E : Value → Shared → Prop}

theorem TP.ltPl (T : TP P s l c Pl ps) : Pl < s.heap.objs.size := by
  obtain ⟨_, _, _, _, _, _, _, _, _, op, _, _, _, _, _, _, _, hP, _⟩ := T.main.code
  exact Heap.lt_size hP
theorem TP.g_lt (T : TP P s l c Pl ps) : mainGlobals < Pl := T.main.low.2
theorem Kp.same {s' : Shared} (T : TP P s l c Pl ps) (b : Heap.SameBut mainGlobals s.heap s'.heap) : Kp Pl s s' := fun a o h e => (b.2 a (Nat.ne_of_gt (Nat.lt_trans T.g_lt h))).trans e

/-- x = frozenset('..') -/
theorem setStr {x : Str} {str : String} {p1 p2 p3 p4 p5 : Pos} {k1 : Nat} {Q : Flow → Shared → Prop} (hh : A.handled = none) (T : TP P s l c Pl ps) (hf : GM' P l "frozenset" = none) (hz : (Str.ofString str).cps.size < 1000)
    (h : ∀ s' a, Same s s' → TP P s' ((x, .ref a) :: l) c Pl ps → FzT w Pl s' a (addAll (fun i => ⟨#[(Str.ofString str).cps.toList[i]?.getD 0]⟩) (Str.ofString str).cps.size) → Kp Pl s s' → Q .next s')
    (hl : pw.main.scope.names.lookup x = some .local := by rfl) (hx : x ≠ "__builtins__" := by decide) :
    wpAny (model pw w) A (exec (.Assign [.Name x p1] (.Call (.Name "frozenset" p2) [.Constant (.str (Str.ofString str)) k1 p3] [] p4) p5) (mainEnv pw c F)) Q E s := by
  refine wpAny_Assign_Name <| Call_ <| ldMB T hf Boot.«frozenset» <| cT <| aC <| Constant_str <| args_nil <| fz_of_str (s := { s with toks := _ }) hh hz fun s₁ a S₁ k₁ ha F₁ => ?_
  have T₁ : TP P s₁ l c Pl ps := by
    have := T.grow (tk := s₁.toks) k₁
    exact ⟨this.main, this.old, this.lowc, this.stat⟩
  refine stM T₁ (fun s₂ S₂ b₂ T₂ => ?_) hl hx
  have ha' : Pl < a := Nat.lt_of_lt_of_le T.ltPl ha
  exact h s₂ a (Same.trans S₁ S₂) T₂ (FzT.kp (s := s₁) ⟨ha', F₁⟩ (Kp.same T₁ b₂)) (Kp.trans (Kp.grow k₁) (Kp.same T₁ b₂))
end
end Mine
end

-- part H7
section
open PySem PySem.W PySem.Calls PyProof.Rows
set_option Elab.async false
set_option maxRecDepth 100000
namespace Mine

section
variable {P : Params} {s : Shared} {l : List (Str × Value)} {c Pl F : Addr} {ps : List Value} {w : World} {A : Around} {E : Value → Shared → Prop}

theorem TP.up (T : TP P s l c Pl ps) {s' : Shared} (k : s.heap.StaysIn s'.heap) : TP P s' l c Pl ps := by
  have := T.grow (tk := s'.toks) k
  exact ⟨this.main, this.old, this.lowc, this.stat⟩

theorem wsKeys : addAll (fun i => (⟨#[(Str.ofString " \t").cps.toList[i]?.getD 0]⟩ : Str)) (Str.ofString " \t").cps.size = [32, 9].map fun c => ⟨#[c]⟩ := by decide

/-- TOML_WS_AND_NEWLINE = TOML_WS | frozenset('\n') -/
theorem set10 {wsA : Addr} {Q : Flow → Shared → Prop} (hh : A.handled = none) (T : TP P s l c Pl ps) (hf : GM' P l "frozenset" = none) (hw : GM' P l "TOML_WS" = some (.ref wsA)) (hF : FzT w Pl s wsA ([32, 9].map fun c => ⟨#[c]⟩))
    (h : ∀ s' a, Same s s' → TP P s' (("TOML_WS_AND_NEWLINE", .ref a) :: l) c Pl ps → FzT w Pl s' a ([32, 9, 10].map fun c => ⟨#[c]⟩) → Kp Pl s s' → Q .next s') :
    wpAny (model pw w) A (exec (stAt 10) (mainEnv pw c F)) Q E s := by
  refine wpAny_Assign_Name <| wpAny_BinOp <| ldMG T hw <| Call_ <| ldMB T hf Boot.«frozenset» <| cT <| aC <| Constant_str <| args_nil <| fz_of_str (s := { s with toks := _ }) hh (by decide) fun s₁ a S₁ k₁ ha F₁ => ?_
  have e1 : addAll (fun i => (⟨#[(Str.ofString "\n").cps.toList[i]?.getD 0]⟩ : Str)) (Str.ofString "\n").cps.size = [⟨#[10]⟩] := by decide
  rw [e1] at F₁
  have T₁ := T.up k₁
  have hF₁ := hF.kp (Kp.grow (s' := s₁) k₁)
  have hlt : wsA < s.heap.objs.size := by obtain ⟨_, _, _, e, _⟩ := hF.2; exact Heap.lt_size e
  refine fz_or (mask := 7) hF₁.2 F₁ (Nat.ne_of_lt (Nat.lt_of_lt_of_le hlt ha)) (by decide) (by decide) ring7 (by decide) (by decide) (by decide) (by decide) fun s₂ r S₂ k₂ hr F₂ => ?_
  have e2 : (if (⟨#[10]⟩ : Str) ∈ ([32, 9].map fun c => (⟨#[c]⟩ : Str)) then ([32, 9].map fun c => (⟨#[c]⟩ : Str)) else ([32, 9].map fun c => (⟨#[c]⟩ : Str)) ++ [⟨#[10]⟩]) = [32, 9, 10].map fun c => ⟨#[c]⟩ := by decide
  rw [e2] at F₂
  have T₂ := T₁.up k₂
  refine stM T₂ fun s₃ S₃ b₃ T₃ => ?_
  have hra : Pl < r := Nat.lt_of_lt_of_le T₁.ltPl hr
  have kp := Kp.same T₂ b₃
  exact h s₃ r ((Same.trans S₁ S₂).trans S₃) T₃ (FzT.kp (s := s₂) ⟨hra, F₂⟩ kp) (Kp.trans (Kp.trans (Kp.grow k₁) (Kp.grow k₂)) kp)

/-- ILLEGAL_BASIC_STR_CHARS = ASCII_CTRL - frozenset('\t') -/
theorem set6 {asA : Addr} {ks : List Str} {Q : Flow → Shared → Prop} (hh : A.handled = none) (T : TP P s l c Pl ps) (hf : GM' P l "frozenset" = none) (hw : GM' P l "ASCII_CTRL" = some (.ref asA)) (hF : FzT w Pl s asA ks) (hlen : ks.length = 33) (hnd : ks.Nodup) (h9 : (⟨#[9]⟩ : Str) ∈ ks)
    (h : ∀ s' a ks', Same s s' → TP P s' (("ILLEGAL_BASIC_STR_CHARS", .ref a) :: l) c Pl ps → FzT w Pl s' a ks' → (∀ y, y ∈ ks' ↔ y ∈ ks ∧ y ≠ ⟨#[9]⟩) → Kp Pl s s' → Q .next s') :
    wpAny (model pw w) A (exec (stAt 6) (mainEnv pw c F)) Q E s := by
  refine wpAny_Assign_Name <| wpAny_BinOp <| ldMG T hw <| Call_ <| ldMB T hf Boot.«frozenset» <| cT <| aC <| Constant_str <| args_nil <| fz_of_str (s := { s with toks := _ }) hh (by decide) fun s₁ a S₁ k₁ ha F₁ => ?_
  have e1 : addAll (fun i => (⟨#[(Str.ofString "\t").cps.toList[i]?.getD 0]⟩ : Str)) (Str.ofString "\t").cps.size = [⟨#[9]⟩] := by decide
  rw [e1] at F₁
  have T₁ := T.up k₁
  have hF₁ := hF.kp (Kp.grow (s' := s₁) k₁)
  refine fz_sub (mask := 127) hF₁.2 F₁ (fun z => by rw [z] at hlen; cases hlen) hnd h9 (by rw [hlen]; decide) (by rw [hlen]; decide) ring127 (by omega) (by decide) (by rw [hlen]; decide) fun s₂ r ks' S₂ k₂ hr F₂ hmem => ?_
  have T₂ := T₁.up k₂
  refine stM T₂ fun s₃ S₃ b₃ T₃ => ?_
  have hra : Pl < r := Nat.lt_of_lt_of_le T₁.ltPl hr
  have kp := Kp.same T₂ b₃
  exact h s₃ r ks' ((Same.trans S₁ S₂).trans S₃) T₃ (FzT.kp (s := s₂) ⟨hra, F₂⟩ kp) hmem (Kp.trans (Kp.trans (Kp.grow k₁) (Kp.grow k₂)) kp)
end
end Mine
end

-- part H8
section
open PySem PySem.W PySem.Calls PyProof.Rows
set_option Elab.async false
set_option maxRecDepth 100000
namespace Mine

section
variable {M : Model} {A : Around} {E : Value → Shared → Prop} {s : Shared}

theorem genCode {env : Env} {c P : Addr} {ps : Array Value} {pos : Pos} {qualname : Str} {scope : Scope} {Q : Value → Shared → Prop} (hc : env.code = .ref c) (hok : s.heap.IsCode c P ps) (hnf : codeAmong pos ps.toList = none)
    (hQ : ∀ c' h' tk, Heap.ExtBut P s.heap h' → s.heap.objs.size ≤ c' → h'.IsCode c P (ps ++ #[rawInt pos.line, rawInt pos.col, .ref c']) → Q (.ref c') { s with heap := h', toks := tk }) :
    wpAny M A (genexprCode env pos qualname scope) Q E s := by
  obtain ⟨o, vs, file, tf, flags, tg, inF, text, tt, op, ho, hd, h11, h2, h7, h9, h10, hop, hpd, htr, hne⟩ := id hok
  unfold genexprCode codeAt
  rw [hc, if_neg (show ¬ ((Value.ref c == Value.none) = true) from Bool.false_ne_true)]
  refine wpAny_bind (wpAny_fieldsOf ho hd ?_)
  rw [h11]
  refine wpAny_bind (wpAny_fieldsOf hop hpd ?_)
  rw [hnf, h2, h7, h9, h10]
  refine wpAny_bind (wpAny_newCode fun c' P' h' tk hk hc' hP' hcode' hrec' => ?_)
  have hop' := hk _ _ hop
  refine wpAny_bind (wpAny_updateFieldsOfTheText hop' hpd ?_)
  have hnew : (Obj.mapFields (fun vs => if (codeAmong pos vs.toList).isSome = true then vs else vs ++ #[rawInt pos.line, rawInt pos.col, .ref c']) op).data =
      .fields (ps ++ #[rawInt pos.line, rawInt pos.col, .ref c']) := by
    rw [Obj.data_mapFields hpd, hnf]; rfl
  have hget := Heap.get?_update_self (h := h') (fun o => Obj.mapFields (fun vs => if (codeAmong pos vs.toList).isSome = true then vs else
    vs ++ #[rawInt pos.line, rawInt pos.col, .ref c']) o) hop' (Obj.isFreed_of_fields hnew)
  refine wpAny_bind (wpAny_fieldsOf hget hnew ?_)
  have hl : (ps ++ #[rawInt pos.line, rawInt pos.col, Value.ref c']).toList = ps.toList ++ [rawInt pos.line, rawInt pos.col, .ref c'] := by simp
  rw [hl, codeAmong_snoc _ htr hnf]
  refine wpAny_pure (hQ _ _ _ (fun b o' hb e => ((Heap.SameBut.update ..).extBut b o' hb (hk b o' e))) hc' ?_)
  exact ⟨o, vs, file, tf, flags, tg, inF, text, tt, _, (Heap.SameBut.update ..).extBut _ _ hne (hk _ _ ho), hd, h11, h2, h7, h9, h10, hget, hnew,
    by rw [hl]; exact TriplesOk_snoc _ _ _ _ htr, hne⟩
end
end Mine
end

-- part H9a
section
open PySem PySem.W PySem.Calls PyProof.Rows
set_option Elab.async false
set_option maxRecDepth 100000
namespace Mine

def callArg0 : PySem.Expr → PySem.Expr | .Call _ (a :: _) _ _ => a | e => e
def binL : PySem.Expr → PySem.Expr | .BinOp l _ _ _ => l | e => e
def asgV : Stmt → PySem.Expr | .Assign _ v _ => v | _ => .Constant .none 0 default
def gexp : PySem.Expr := callArg0 (binL (asgV (stAt 5)))
def gexpPos : PySem.Expr → Pos | .GeneratorExp _ _ _ p => p | _ => default
def gexpElt : PySem.Expr → PySem.Expr | .GeneratorExp e _ _ _ => e | e => e
def gexpScope : PySem.Expr → Scope | .GeneratorExp _ _ s _ => s | _ => default

theorem gexp_quiet {w : World} {C c F N it : Addr} {code : Value} {href : Heap} {mg mb : Str → Option Value} (hg : href.Ns mainGlobals mg) (hb : href.Ns builtinsNs mb) (hm : mg "chr" = none) (hv : mb "chr" = some (.builtin "chr"))
    (g1 : mainGlobals < N) (b1 : builtinsNs < N) (g2 : mainGlobals ≠ it) (b2 : builtinsNs ≠ it) :
    QuietGen pw w (genEnv (gexpScope gexp) [] C code builtinsNs (mainEnv pw c F)) "i" [] (gexpElt gexp) (List.range N) [it] (fun i v => i < 32 ∧ ∃ t, v = .int (0 + i * 1) t) (fun _ => true) (fun i v => ∃ t, v = .str ⟨#[i]⟩ t) href := by
  constructor
  · intro A' E' i v s₂ m₂ hh hP hn hx hk
    exact wpAny_pure ⟨rfl, s₂.heap, s₂.toks, rfl, fun _ _ e => e⟩
  · intro A' E' i v s₂ m₂ hh hP _ hn hx hk
    obtain ⟨hi, t, rfl⟩ := hP
    have hg₂ : s₂.heap.Ns mainGlobals mg := hg.at' fun o e => hk _ (List.mem_range.mpr g1) (by simpa using g2) o e
    have hb₂ : s₂.heap.Ns builtinsNs mb := hb.at' fun o e => hk _ (List.mem_range.mpr b1) (by simpa using b2) o e
    refine Call_ <| Calls.Name_function_global rfl rfl (Calls.loadGlobal_builtin (env := genEnv (gexpScope gexp) [] C code builtinsNs (mainEnv pw c F)) hg₂ hm hb₂ hv ?_) (by decide)
    refine cB <| aC <| wpAny_Name (wpAny_loadName_local rfl rfl hn hx ?_) (by decide)
    refine args_nil <| PySem.P.chr_of_int (by simp; omega) ?_
    have e : (0 + (i : Int) * 1).toNat = i := by omega
    rw [e]
    exact ⟨⟨_, rfl⟩, s₂.heap, _, rfl, fun _ _ e => e⟩
end Mine
end

-- part H9
section
open PySem PySem.W PySem.Calls PyProof.Rows
set_option Elab.async false
set_option maxRecDepth 100000
namespace Mine

section
variable {P : Params} {s : Shared} {l : List (Str × Value)} {c Pl F : Addr} {ps : List Value} {w : World} {A : Around} {E : Value → Shared → Prop}

/-- the generator expression is made -/
theorem gexp_made {Q : Value → Shared → Prop} (hh : A.handled = none) (hroom : A.depth < recursionLimit) (T : TP P s l c Pl ps) (hr : GM' P l "range" = none) (hc : GM' P l "chr" = none) (hnf : codeAmong (gexpPos gexp) ps = none)
    (h : ∀ (s' : Shared) (G C it : Addr) (fp : List Addr) (c' : Addr), s'.os = s.os → (∃ gs, s'.gens = s.gens.push gs) → TP P s' l c Pl (ps ++ [rawInt (gexpPos gexp).line, rawInt (gexpPos gexp).col, .ref c']) → Kp Pl s s' →
      GenAt pw w A.in1.in1.in1 G s.gens.size C fp [it] (fun _ => true) 32 (fun i v => ∃ t, v = .str ⟨#[i]⟩ t) 0 s' → G ≠ C → G ∉ fp → it ∈ fp → cStatics ∈ fp → cStatics ≠ C → cStatics ≠ it → (∀ b ∈ G :: C :: fp, b < s'.heap.objs.size) → s.heap.objs.size ≤ C → s.heap.objs.size ≤ it → Q (.ref G) s') :
    wpAny (model pw w) A (eval gexp (mainEnv pw c F)) Q E s := by
  refine wpAny_GeneratorExp_make (cl := []) rfl (closureFor_none (by decide)) (by decide) rfl rfl hroom ?_ (by intro x; rfl)
  refine Call_ <| ldMB T hr Boot.«range» <| cT <| aC <| wpAny_Constant_int <| args_nil <| rangeIt1 (b := 32) (s := { s with toks := _ }) (by decide) fun s₁ it S₁ k₁ hit I₁ => ?_
  have T₁ := T.up k₁
  refine ⟨T₁.lim, genCode rfl T₁.main.code (show codeAmong (gexpPos gexp) ps.toArray.toList = none by simpa using hnf) fun c' h₂ tk₂ hx₂ hc' hcode₂ => ?_⟩
  have hps : ps.toArray ++ #[rawInt (gexpPos gexp).line, rawInt (gexpPos gexp).col, .ref c'] = (ps ++ [rawInt (gexpPos gexp).line, rawInt (gexpPos gexp).col, .ref c']).toArray := by simp
  have T₂ : TP P { s₁ with heap := h₂, toks := tk₂ } l c Pl (ps ++ [rawInt (gexpPos gexp).line, rawInt (gexpPos gexp).col, .ref c']) := by
    obtain ⟨⟨g, code, low, bm, o, a1, a2, a3, a4, a5, a6⟩, old, lowc, ms, hn, hk⟩ := T₁
    refine ⟨⟨g.extBut hx₂ (Nat.ne_of_lt low.2), hps ▸ hcode₂, low, bm, o, a1, a2, a3, a4, hx₂ _ _ a4 a5, a6⟩, fun b o h1 h2 e => hx₂ b o (fun q => ?_) (old b o h1 h2 e), lowc, ms, hn.extBut hx₂ (Nat.ne_of_lt (Nat.lt_of_lt_of_le (show 2 < 11 by decide) lowc.2)), hk⟩
    subst q
    exact absurd (Heap.lt_size e) (Nat.not_lt.mpr lowc.2)
  have kp₂ : Kp Pl s { s₁ with heap := h₂, toks := tk₂ } := fun b o hb e => hx₂ b o (Nat.ne_of_gt hb) (k₁ b o e)
  obtain ⟨bm, o, a1, a2, a3, a4, a5, a6, a7, a8⟩ := T₂.main.bmod
  refine wpAny_builtinsFor (s := { s₁ with heap := h₂, toks := tk₂ }) T₂.main.g a1 a2 a5 a6 a7 a8 fun h₃ n₃ b₃ => ?_
  have hitP : Pl < it := Nat.lt_trans T.ltPl hit
  have I₂ : IsRangeIter h₂ it (0 : Int) ((32 : Nat) : Int) 1 := hx₂ _ _ (Nat.ne_of_gt hitP) I₁
  have hC : Pl < h₂.objs.size := T₂.ltPl
  have k₃ : h₂.StaysIn h₃ := fun b o e => b₃.extBut b o (Nat.ne_of_lt (Heap.lt_size e)) (Heap.get?_push_of_some _ e)
  have hsz : h₃.objs.size = h₂.objs.size + 1 := by rw [b₃.1, Heap.size_push]
  have hitl : it < h₂.objs.size := Heap.lt_size I₂
  have hcsl : cStatics < h₂.objs.size := by obtain ⟨ms, hn, _⟩ := T₂.stat; exact hn.lt
  generalize hgen : ({ cls := .type "generator", data := .fields #[.int s₁.gens.size 0, .str "<genexpr>" (tk₂ + 1), .str ((mainEnv pw c F).qual ++ "<genexpr>") (tk₂ + 1 + 1)] } : Obj) = gob
  have k₄ : h₂.StaysIn (h₃.push gob) := fun b o e => Heap.get?_push_of_some _ (k₃ b o e)
  have e0 : s₁.gens = s.gens := S₁.1
  have T₄ : ∀ (gs : Array GenState) (tk : Tok), TP P { s₁ with heap := h₃.push gob, gens := gs, toks := tk } l c Pl (ps ++ [rawInt (gexpPos gexp).line, rawInt (gexpPos gexp).col, .ref c']) := fun gs tk => by
    have := T₂.grow (tk := tk) k₄
    exact ⟨this.main, this.old, this.lowc, this.stat⟩
  refine h _ h₃.objs.size h₂.objs.size it (List.range h₂.objs.size) c' S₁.2 ⟨_, by rw [← e0]⟩ (T₄ _ _) (Kp.trans kp₂ (Kp.grow k₄)) ?_ (by rw [hsz]; exact Nat.succ_ne_self _) (fun hm => by have := List.mem_range.mp hm; omega) (List.mem_range.mpr hitl) (List.mem_range.mpr hcsl) (Nat.ne_of_lt hcsl)
    (Nat.ne_of_lt (Nat.lt_trans (Nat.lt_of_lt_of_le (show 2 < 11 by decide) T.lowc.2) hitP)) (fun b hb => ?_) (Nat.le_of_lt (Nat.lt_trans hit hitl)) (Nat.le_of_lt hit)
  · have hcN : (GM' P l) "chr" = none := hc
    have g1 : mainGlobals < h₂.objs.size := T₂.main.g.lt
    have b1 : builtinsNs < h₂.objs.size := T₂.blt.lt
    have lowit : (boot_heap P).objs.size < it := Nat.lt_of_le_of_lt T.lowc.2 hitP
    have W : ∀ A' : Around, A'.handled = none → Walks pw w A' it (List.range h₂.objs.size) [it] 32 (fun i v => i < 32 ∧ ∃ t, v = .int (0 + i * 1) t) (fun i h => IsRangeIter h it (0 + (i : Nat) * 1) (((32 : Nat) : Int) - (i : Nat)) 1) :=
      fun A' hA => ((Walks.range hA it 0 1 32).bound).mono_fp fun b hb => by rw [List.mem_singleton.mp hb]; exact List.mem_range.mpr hitl
    refine GenAt.fresh (A := A.in1.in1.in1) (cenv := genEnv (gexpScope gexp) [] h₂.objs.size (.ref c') builtinsNs (mainEnv pw c F)) (m := fun y => if y = ".0" then some (.ref it) else none) hh W (fun _ => true) (fun i v => ∃ t, v = .str ⟨#[i]⟩ t) rfl rfl rfl
      (fun hm => Nat.lt_irrefl _ (List.mem_range.mp hm)) (gexp_quiet ((T₄ #[] 0).main.g) ((T₄ #[] 0).blt) hcN ((blt_boot P "chr" (by decide)).trans Boot.«chr») g1 b1 (Nat.ne_of_lt (Nat.lt_trans (show mainGlobals < 11 by decide) lowit)) (Nat.ne_of_lt (Nat.lt_trans (show builtinsNs < 11 by decide) lowit)))
      ⟨_, _, _, Heap.get?_push_size _ (hgen ▸ rfl), by rw [← hgen], by rw [← hgen, ← e0], by rw [← hgen]⟩ (by rw [← e0]; exact Array.getElem?_push_size ..) (k₄ _ _ I₂) (n₃.push _) (T₄ #[] 0).lim
  · show b < (h₃.push gob).objs.size
    rw [Heap.size_push, hsz]
    rcases List.mem_cons.mp hb with e | hb
    · rw [e, hsz]; exact Nat.lt_succ_self _
    · rcases List.mem_cons.mp hb with e | hb
      · rw [e]; exact Nat.lt_succ_of_lt (Nat.lt_succ_self _)
      · exact Nat.lt_succ_of_lt (Nat.lt_succ_of_lt (List.mem_range.mp hb))
end
end Mine
end

-- part H10
section
open PySem PySem.W PySem.Calls PyProof.Rows
set_option Elab.async false
set_option maxRecDepth 100000
namespace Mine

theorem gens_done {a b c : Array GenState} {gs : GenState} (h1 : b = a.push gs) (h2 : GenOnly a.size b c) (h3 : c[a.size]? = some .finished) : c = a.push .finished := by
  subst h1
  refine Array.ext_getElem? fun i => ?_
  by_cases e : i = a.size
  · subst e; rw [h3, Array.getElem?_push_size]
  · rw [h2.2 i e, Array.getElem?_push, Array.getElem?_push, if_neg e, if_neg e]

section
variable {P : Params} {s s₀ s' : Shared} {l : List (Str × Value)} {c Pl F : Addr} {ps ps₀ : List Value} {w : World} {A : Around} {E : Value → Shared → Prop}

theorem TP.bm_lt (T : TP P s l c Pl ps) {bm : Addr} (h : GM' P l "__builtins__" = some (.ref bm)) : bm < s.heap.objs.size := by
  obtain ⟨bm', o, a1, a2, a3, a4, a5, _⟩ := T.main.bmod
  rw [h] at a1
  cases a1
  exact Heap.lt_size a5

/-- things behind an earlier heap are turned -/
theorem TP.off (T₀ : TP P s₀ l c Pl ps₀) (T : TP P s l c Pl ps) (k : ∀ b o, b < s₀.heap.objs.size → s.heap.get? b = some o → s'.heap.get? b = some o) : TP P s' l c Pl ps := by
  have hc : c < s₀.heap.objs.size := by
    obtain ⟨o, vs, file, tf, flags, tg, inF, text, tt, op, ho, _⟩ := T₀.main.code
    exact Heap.lt_size ho
  have hPl := T₀.ltPl
  have hg : mainGlobals < s₀.heap.objs.size := T₀.main.g.lt
  have hst : cStatics < s₀.heap.objs.size := by obtain ⟨ms, hn, _⟩ := T₀.stat; exact hn.lt
  obtain ⟨⟨g, ⟨o, vs, file, tf, flags, tg, inF, text, tt, op, ho, hd, h11, h2, h7, h9, h10, hop, r⟩, low, bm, ob, a1, a2, a3, a4, a5, a6⟩, old, lowc, ms, hn, hk⟩ := T
  refine ⟨⟨g.at' fun o e => k _ _ hg e, ⟨o, vs, file, tf, flags, tg, inF, text, tt, op, k _ _ hc ho, hd, h11, h2, h7, h9, h10, k _ _ hPl hop, r⟩, low, bm, ob, a1, a2, a3, a4, k _ _ (T₀.bm_lt a1) a5, a6⟩, fun b o h1 h2 e => k _ _ (Nat.lt_trans (Nat.lt_of_lt_of_le (Heap.lt_size e) lowc.2) hPl) (old b o h1 h2 e), lowc, ms, hn.at' fun o e => k _ _ hst e, hk⟩

def chrs32 : List Str := (List.range 32).map fun i => ⟨#[i]⟩
theorem chrs_all : addAll (fun i => (⟨#[i]⟩ : Str)) (passing (fun _ => true) 32 0).length = chrs32 := by decide
def ctrl : List Str := chrs32 ++ [⟨#[127]⟩]

/-- ASCII_CTRL = frozenset(chr(i) for i in range(32)) | frozenset(chr(127)) -/
theorem set5 {Q : Flow → Shared → Prop} (hh : A.handled = none) (hroom : A.depth < recursionLimit) (T : TP P s l c Pl ps) (hf : GM' P l "frozenset" = none) (hr : GM' P l "range" = none) (hc : GM' P l "chr" = none) (hnf : codeAmong (gexpPos gexp) ps = none)
    (h : ∀ s' a c', s'.os = s.os → s'.gens = s.gens.push .finished → TP P s' (("ASCII_CTRL", .ref a) :: l) c Pl (ps ++ [rawInt (gexpPos gexp).line, rawInt (gexpPos gexp).col, .ref c']) → FzT w Pl s' a ctrl → Kp Pl s s' → Q .next s') :
    wpAny (model pw w) A (exec (stAt 5) (mainEnv pw c F)) Q E s := by
  refine wpAny_Assign_Name <| wpAny_BinOp <| Call_ <| ldMB T hf Boot.«frozenset» <| cT <| aC <| gexp_made hh hroom T hr hc hnf fun s₁ G C it fp c' os₁ ⟨gs, g₁⟩ T₁ kp₁ G₁ haC haf hitf hcs hcC hcw hlt hC hit => ?_
  refine args_nil <| fz_of_gen hh hroom G₁ haC haf (by intro b hb; rw [List.mem_singleton.mp hb]; exact hitf) hcs hcC (by simpa using hcw) hlt (fun i => ⟨#[i]⟩) (fun i v hv => ?_) (by decide) fun s₂ a os₂ go₂ gf₂ k₂ ha F₂ => ?_
  · obtain ⟨j, hj, t, rfl⟩ := hv
    have e : passing (fun _ => true) 32 0 = List.range 32 := by decide
    rw [e, List.getElem?_eq_some_iff] at hj
    obtain ⟨h1, h2⟩ := hj
    rw [List.getElem_range] at h2
    exact ⟨t, by rw [h2]⟩
  rw [chrs_all] at F₂
  have hsz : s.heap.objs.size ≤ s₁.heap.objs.size := Nat.le_trans hit (Nat.le_of_lt (hlt it (List.mem_cons_of_mem _ (List.mem_cons_of_mem _ hitf))))
  have k₂' : ∀ b o, b < s.heap.objs.size → s₁.heap.get? b = some o → s₂.heap.get? b = some o := fun b o hb e => k₂ b o (by
    intro q
    rcases List.mem_cons.mp q with q | q
    · subst q; exact Nat.lt_irrefl _ (Nat.lt_of_lt_of_le hb hC)
    · rw [List.mem_singleton.mp q] at hb; exact Nat.lt_irrefl _ (Nat.lt_of_lt_of_le hb hit)) e
  have T₂ : TP P s₂ l c Pl (ps ++ [rawInt (gexpPos gexp).line, rawInt (gexpPos gexp).col, .ref c']) := TP.off T T₁ k₂'
  have kp₂ : Kp Pl s s₂ := fun b o hb e => k₂' b o (Heap.lt_size e) (kp₁ b o hb e)
  have g₂ : s₂.gens = s.gens.push .finished := gens_done g₁ go₂ gf₂
  have haP : Pl < a := Nat.lt_of_lt_of_le T.ltPl (Nat.le_trans hsz ha)
  refine Call_ <| ldMB T₂ hf Boot.«frozenset» <| cT <| aC <| Call_ <| ldMB T₂ hc Boot.«chr» <| cB <| aC <| wpAny_Constant_int <| args_nil <| PySem.P.chr_of_int (by decide) <| args_nil <| fz_of_str (s := { s₂ with toks := _ }) hh (by decide) fun s₃ b S₃ k₃ hb F₃ => ?_
  have e1 : addAll (fun i => (⟨#[(⟨#[(127 : Int).toNat]⟩ : Str).cps.toList[i]?.getD 0]⟩ : Str)) (⟨#[(127 : Int).toNat]⟩ : Str).cps.size = [⟨#[127]⟩] := by decide
  have F₃' : FzAt w s₃.heap b [⟨#[127]⟩] := e1 ▸ F₃
  have T₃ := T₂.up k₃
  have hlt₂ : a < s₂.heap.objs.size := by obtain ⟨_, _, _, e, _⟩ := F₂; exact Heap.lt_size e
  refine fz_or (mask := 127) (F₂.keeps k₃) F₃' (Nat.ne_of_lt (Nat.lt_of_lt_of_le hlt₂ hb)) (by decide) (by decide) ring127 (by decide) (by decide) (by decide) (by decide) fun s₄ r S₄ k₄ hr F₄ => ?_
  have e2 : (if (⟨#[127]⟩ : Str) ∈ chrs32 then chrs32 else chrs32 ++ [⟨#[127]⟩]) = ctrl := by decide
  rw [e2] at F₄
  have T₄ := T₃.up k₄
  refine stM T₄ fun s₅ S₅ b₅ T₅ => ?_
  have hra : Pl < r := Nat.lt_of_lt_of_le T₃.ltPl hr
  have kp := Kp.same T₄ b₅
  have S := (Same.trans S₃ S₄).trans S₅
  exact h s₅ r c' (S.2.trans (os₂.trans os₁)) (S.1.trans g₂) T₅ (FzT.kp (s := s₄) ⟨hra, F₄⟩ kp) (Kp.trans kp₂ (Kp.trans (Kp.grow k₃) (Kp.trans (Kp.grow k₄) kp)))
end
end Mine
end

-- part H11
section
open PySem PySem.W PySem.Calls PyProof.Rows
set_option Elab.async false
set_option maxRecDepth 100000
namespace Mine
namespace VE
theorem mro : mroOf (.type "ValueError") = pure [.type "ValueError", .type "Exception", .type "BaseException", .type "object"] := by kernel_rfl
theorem tyVE : typeOf (.type "ValueError") = pure (.type "type") := by kernel_rfl
theorem tyT : typeOf (.type "type") = pure (.type "type") := by kernel_rfl
theorem isT : isType (.type "ValueError") = pure true := rfl
theorem isTT : isType (.type "type") = pure true := rfl
theorem sub_type_type : isSubtype (.type "type") (.type "type") = pure true := by rw [isSubtype_type]; kernel_rfl
theorem sub_tup : isSubtype (.type "tuple") (.type "tuple") = pure true := by rw [isSubtype_type]; kernel_rfl
theorem sub_dict : isSubtype (.type "dict") (.type "dict") = pure true := by rw [isSubtype_type]; kernel_rfl
theorem turned : Builtin.notOverATurnedClass [.type "ValueError"] = pure () := by kernel_rfl
theorem ext : Builtin.extendedBase [.type "ValueError"] = pure (.type "ValueError") := by kernel_rfl
theorem best : Builtin.Slots.bestBase [.type "ValueError"] = pure (.type "ValueError") := by kernel_rfl
theorem lin : Builtin.linearize [.type "ValueError"] mroOf = pure [.type "ValueError", .type "Exception", .type "BaseException", .type "object"] := by kernel_rfl
theorem hook : Builtin.mroHook? (.type "type") = pure none := by kernel_rfl
theorem made : Bind.madeBy (.type "ValueError") = pure (some "ValueError.__new__") := by kernel_rfl
theorem weak : Builtin.Slots.givesWeak (.type "ValueError") = pure false := by kernel_rfl
theorem slots : Builtin.Slots.slotNamesOf (.type "ValueError") = pure [] := by kernel_rfl
theorem dict : Builtin.Slots.givesDict (.type "ValueError") = pure true := by kernel_rfl
theorem var : Builtin.Slots.varSize (.type "ValueError") = pure false := by kernel_rfl
theorem read (es : Array DictEntry) (h : es.find? (·.key.isStr "__slots__") = none) : Builtin.Slots.read "TOMLDecodeError" [.type "ValueError"] es = pure { inherited := [], dict := false, weak := true } := by
  unfold Builtin.Slots.read
  simp only [best, slots, dict, weak, var, pure_bind, h]
  rfl
theorem note (a : Addr) : Builtin.noteSubclassOfBuiltin "ValueError" a = pure () := by kernel_rfl
theorem iter_dict : typeLookup (.type "dict") "__iter__" = pure (some (.builtin "dict.__iter__")) := by rw [typeLookup_type, builtinLookup_eq_fast]; kernel_rfl
theorem getitem_dict : typeLookup (.type "dict") "__getitem__" = pure (some (.builtin "dict.__getitem__")) := by rw [typeLookup_type, builtinLookup_eq_fast]; kernel_rfl
theorem sn_str : typeLookup (.type "str") "__set_name__" = pure none := by rw [typeLookup_type, builtinLookup_eq_fast]; kernel_rfl
theorem sn_int : typeLookup (.type "int") "__set_name__" = pure none := by rw [typeLookup_type, builtinLookup_eq_fast]; kernel_rfl
theorem sn_tup : typeLookup (.type "tuple") "__set_name__" = pure none := by rw [typeLookup_type, builtinLookup_eq_fast]; kernel_rfl
theorem sn_gs : typeLookup (.type "getset_descriptor") "__set_name__" = pure none := by rw [typeLookup_type, builtinLookup_eq_fast]; kernel_rfl
theorem sn_none : typeLookup (.type "NoneType") "__set_name__" = pure none := by rw [typeLookup_type, builtinLookup_eq_fast]; kernel_rfl
end VE

abbrev dobj (es : List DictEntry) (n : Nat) : Obj := { cls := .type "dict", data := .dict es.toArray n }
abbrev en (h : Int) (k : Str) (t : Tok) (v : Value) : DictEntry := ⟨h, .str k t, v⟩

section
variable {M : Model} {A : Around} {E : Value → Shared → Prop} {h₀ : Heap} {g : Array GenState} {d : Drawn} {t : Nat} {os : OsState} {a : Addr}
theorem nsGetC {o : Obj} {name : Str} {r : Option Value} {Q : Option Value → Shared → Prop} (ho : h₀.get? a = some o) (hl : nsLook name o = pure r) (h : Q r ⟨h₀, g, d, t, os⟩) : wpAny M A (nsGet a name) Q E ⟨h₀, g, d, t, os⟩ := by
  unfold nsGet
  refine wpAny_bind (wpAny_loadPart ho ?_)
  rw [hl]
  exact wpAny_pure h
theorem nsSetC {es : List DictEntry} {n : Nat} {name : Str} {v : Value} {Q : Unit → Shared → Prop} (ho : h₀.get? a = some (dobj es n)) (hr : aRefKeyMayBeTheName name es.toArray = false)
    (hp : ∀ x key, Obj.putName name x key v (dobj es n) = dobj (es ++ [⟨x, key, v⟩]) (n + 1))
    (h : ∀ x h', Heap.SameBut a h₀ h' → h'.get? a = some (dobj (es ++ [en x name t v]) (n + 1)) → Q () ⟨h', g, d, t + 1, os⟩) : wpAny M A (nsSet a name v) Q E ⟨h₀, g, d, t, os⟩ := by
  unfold nsSet
  unfold strHash
  refine wpAny_bind (wpAny_bind (wpAny_askSetting (wpAny_pure ?_)))
  refine wpAny_bind (wpAny_mkText ?_)
  refine wpAny_bind (wpAny_loadPart (s := ⟨h₀, g, d, t + 1, os⟩) ho ?_)
  dsimp only
  rw [hr, if_neg Bool.false_ne_true]
  refine wpAny_updatePart (s := ⟨h₀, g, d, t + 1, os⟩) ho ?_
  refine h (if name.cps.isEmpty = true then 0 else reduceHash (M.w.params.strHash name.cps)) _ (Heap.SameBut.update ..) ?_
  have e := Heap.get?_update_self (h := h₀) (Obj.putName name (if name.cps.isEmpty = true then 0 else reduceHash (M.w.params.strHash name.cps)) (.str name t) v) ho (by rw [hp]; rfl)
  rw [hp] at e
  exact e
theorem nsDelC {es es' : List DictEntry} {n : Nat} {name : Str} {Q : Bool → Shared → Prop} (ho : h₀.get? a = some (dobj es n)) (hr : nsHas name (dobj es n) = pure true)
    (hp : Obj.dropName name (dobj es n) = dobj es' (n + 1))
    (h : ∀ h', Heap.SameBut a h₀ h' → h'.get? a = some (dobj es' (n + 1)) → Q true ⟨h', g, d, t, os⟩) : wpAny M A (nsDel a name) Q E ⟨h₀, g, d, t, os⟩ := by
  unfold nsDel
  refine wpAny_bind (wpAny_loadPart ho ?_)
  rw [hr]
  refine wpAny_bind (wpAny_pure ?_)
  rw [if_pos rfl]
  refine wpAny_bind (wpAny_updatePart ho (wpAny_pure ?_))
  refine h _ (Heap.SameBut.update ..) ?_
  have e := Heap.get?_update_self (h := h₀) (Obj.dropName name) ho (by rw [hp]; rfl)
  rw [hp] at e
  exact e
theorem nsDelN {o : Obj} {name : Str} {Q : Bool → Shared → Prop} (ho : h₀.get? a = some o) (hr : nsHas name o = pure false) (h : Q false ⟨h₀, g, d, t, os⟩) : wpAny M A (nsDel a name) Q E ⟨h₀, g, d, t, os⟩ := by
  unfold nsDel
  refine wpAny_bind (wpAny_loadPart ho ?_)
  rw [hr]
  exact wpAny_bind (wpAny_pure (wpAny_pure h))
/-- an object is turned -/
theorem updC {o : Obj} {f : Obj → Obj} {Q : Unit → Shared → Prop} (ho : h₀.get? a = some o) (hf : (f o).isFreed = false) (h : ∀ h', Heap.SameBut a h₀ h' → h'.get? a = some (f o) → Q () ⟨h', g, d, t, os⟩) : wpAny M A (update a f) Q E ⟨h₀, g, d, t, os⟩ :=
  wpAny_update ho (h _ (Heap.SameBut.update ..) (Heap.get?_update_self f ho hf))
theorem updPC {o : Obj} {f : Obj → Obj} {part : Option Value} {Q : Unit → Shared → Prop} (ho : h₀.get? a = some o) (hf : (f o).isFreed = false) (h : ∀ h', Heap.SameBut a h₀ h' → h'.get? a = some (f o) → Q () ⟨h', g, d, t, os⟩) : wpAny M A (updatePart a part f) Q E ⟨h₀, g, d, t, os⟩ :=
  wpAny_updatePart ho (h _ (Heap.SameBut.update ..) (Heap.get?_update_self f ho hf))

/-- the class's object while it is made -/
abbrev cobj (cd : ClassData) (sl : List (Option Value)) : Obj := { cls := .type "type", data := .cls cd, slots := sl.toArray }
theorem slotSetC {cd : ClassData} {sl sl' : List (Option Value)} {i : Nat} {v : Option Value} {Q : Unit → Shared → Prop} (ho : h₀.get? a = some (cobj cd sl)) (hi : i < 10) (hs : (sl.toArray ++ Array.replicate (i + 1 - sl.toArray.size) none).setIfInBounds i v = sl'.toArray)
    (h : ∀ h', Heap.SameBut a h₀ h' → h'.get? a = some (cobj cd sl') → Q () ⟨h', g, d, t, os⟩) : wpAny M A (setSlotAt a i v) Q E ⟨h₀, g, d, t, os⟩ := by
  unfold setSlotAt
  have : ¬ (i ≥ sizeLine) := by rw [sizeLine_eq]; omega
  rw [if_neg this]
  refine updPC ho rfl fun h' b e => h h' b ?_
  rw [e]
  show some ({ cls := _, data := _, slots := _ } : Obj) = _
  rw [hs]
theorem clsSetC {cd : ClassData} {sl : List (Option Value)} {f : ClassData → ClassData} {Q : Unit → Shared → Prop} (ho : h₀.get? a = some (cobj cd sl)) (hf : (Data.cls (f cd)).pastItsLine = none)
    (h : ∀ h', Heap.SameBut a h₀ h' → h'.get? a = some (cobj (f cd) sl) → Q () ⟨h', g, d, t, os⟩) : wpAny M A (updateCls a f) Q E ⟨h₀, g, d, t, os⟩ := by
  unfold updateCls
  refine wpAny_bind (wpAny_load ho ?_)
  dsimp only
  refine wpAny_bind (updC ho rfl fun h' b e => ?_)
  unfold lookBehind
  refine wpAny_bind (wpAny_loadPart e ?_)
  have e' : (Obj.mapCls f (cobj cd sl)).data.pastItsLine = none := hf
  rw [e']
  exact wpAny_pure (h h' b e)
theorem newC {T : String} {data : Data} {Q : Value → Shared → Prop} (hd : sizeOk data) (h : ∀ h', h₀.StaysIn h' → h'.objs.size = h₀.objs.size + 1 → h'.get? h₀.objs.size = some { cls := .type T, data } → Q (.ref h₀.objs.size) ⟨h', g, d, t, os⟩) (hf : ({ cls := .type T, data } : Obj).isFreed = false := by rfl) :
    wpAny M A (newObj (.type T) data) Q E ⟨h₀, g, d, t, os⟩ :=
  wpAny_newObj_type (h _ (fun _ _ e => Heap.get?_push_of_some _ e) (Heap.size_push ..) (Heap.get?_push_size _ hf)) hd
theorem allocC {o : Obj} {Q : Addr → Shared → Prop} (hf : o.isFreed = false) (h : ∀ h', h₀.StaysIn h' → h'.objs.size = h₀.objs.size + 1 → h'.get? h₀.objs.size = some o → Q h₀.objs.size ⟨h', g, d, t, os⟩) :
    wpAny M A (alloc o) Q E ⟨h₀, g, d, t, os⟩ :=
  wpAny_alloc (h _ (fun _ _ e => Heap.get?_push_of_some _ e) (Heap.size_push ..) (Heap.get?_push_size _ hf))
end
end Mine
end

-- part H11b
section
open PySem PySem.W PySem.Calls PyProof.Rows
set_option Elab.async false
set_option maxRecDepth 100000
namespace Mine
section
variable {M : Model} {A : Around} {E : Value → Shared → Prop} {h₀ : Heap} {g : Array GenState} {d : Drawn} {t : Nat} {os : OsState} {C : Addr}
theorem classDataC {cd : ClassData} {sl : List (Option Value)} {Q : ClassData → Shared → Prop} (hc : h₀.get? C = some (cobj cd sl)) (h : Q cd ⟨h₀, g, d, t, os⟩) : wpAny M A (classData C) Q E ⟨h₀, g, d, t, os⟩ := by
  unfold classData
  exact wpAny_bind (wpAny_load hc (wpAny_pure h))
theorem mroC {cd : ClassData} {sl : List (Option Value)} {Q : List Value → Shared → Prop} (hc : h₀.get? C = some (cobj cd sl)) (h : Q cd.mro ⟨h₀, g, d, t, os⟩) : wpAny M A (mroOf (.ref C)) Q E ⟨h₀, g, d, t, os⟩ := by
  show wpAny M A (do return (← classData C).mro) Q E _
  exact wpAny_bind (classDataC hc (wpAny_pure h))
theorem subC {cd : ClassData} {sl : List (Option Value)} {b : Value} {Q : Bool → Shared → Prop} (hc : h₀.get? C = some (cobj cd sl)) (hm : cd.mro ≠ []) (h : Q (cd.mro.contains b) ⟨h₀, g, d, t, os⟩) : wpAny M A (isSubtype (.ref C) b) Q E ⟨h₀, g, d, t, os⟩ := by
  unfold isSubtype
  refine wpAny_bind (mroC hc ?_)
  have : cd.mro.isEmpty = false := by cases hh : cd.mro with | nil => exact absurd hh hm | cons _ _ => rfl
  simp only [this, Bool.false_eq_true, if_false]
  exact wpAny_pure h
theorem slotAtC {o : Obj} {i : Nat} {Q : Option Value → Shared → Prop} (hc : h₀.get? C = some o) (h : Q (o.slots[i]?).join ⟨h₀, g, d, t, os⟩) : wpAny M A (slotAt C i) Q E ⟨h₀, g, d, t, os⟩ := by
  unfold slotAt
  exact wpAny_bind (wpAny_loadPart hc (wpAny_pure h))
theorem lookC {cd : ClassData} {sl : List (Option Value)} {o : Obj} {name : Str} {r : Option Value} {Q : Option Value → Shared → Prop} (hc : h₀.get? C = some (cobj cd sl)) (hm : cd.mro = .ref C :: [.type "ValueError", .type "Exception", .type "BaseException", .type "object"])
    (hn : h₀.get? cd.ns = some o) (hl : nsLook name o = pure none) (hv : typeLookup (.type "ValueError") name = pure r) (h : Q r ⟨h₀, g, d, t, os⟩) : wpAny M A (typeLookup (.ref C) name) Q E ⟨h₀, g, d, t, os⟩ := by
  unfold typeLookup at hv ⊢
  rw [VE.mro, pure_bind] at hv
  refine wpAny_bind (mroC hc ?_)
  rw [hm, List.forIn_cons, bind_assoc]
  refine wpAny_bind ?_
  refine wpAny_bind ?_
  show wpAny M A (do nsGet (← classData C).ns name) _ _ _
  refine wpAny_bind (classDataC hc (nsGetC hn hl ?_))
  refine wpAny_pure ?_
  exact wpAny_of_eq hv h
end
end Mine
end

-- part H12a
section
open PySem PySem.W PySem.Calls PyProof.Rows
set_option Elab.async false
set_option maxRecDepth 100000
namespace Mine
section
variable {w : World} {A : Around} {E : Value → Shared → Prop} {h₀ : Heap} {g : Array GenState} {d : Drawn} {t : Nat} {os : OsState} {C : Addr}

abbrev supO (C : Addr) : Obj := { cls := .type "super", dict := none, data := .fields #[.ref C, .ref C, .ref C], slots := #[] }

theorem superC {cd : ClassData} {sl : List (Option Value)} {Q : Value → Shared → Prop} (hc : h₀.get? C = some (cobj cd sl)) (hm : cd.mro = .ref C :: [.type "ValueError", .type "Exception", .type "BaseException", .type "object"])
    (hq : ∀ h', h'.get? h₀.objs.size = some (supO C) → h₀.StaysIn h' → Q (.ref h₀.objs.size) ⟨h', g, d, t, os⟩) :
    wpAny (model pw w) A (call (.type "super") [.ref C, .ref C]) Q E ⟨h₀, g, d, t, os⟩ := by
  refine ks_callType_codesW (Q₁ := fun obj s₁ => obj = .ref h₀.objs.size ∧ s₁ = ⟨h₀.push { cls := .type "super", data := .fields #[.none, .none, .none] }, g, d, t, os⟩) F.ks_called_super (ks_wpAny_checkTypeCall_super hc rfl) F.ks_entry_super_init
    (ks_code_super_new _ _ ⟨rfl, rfl⟩) fun obj s₁ h₁ => ?_
  obtain ⟨rfl, rfl⟩ := h₁
  have up : h₀.StaysIn (h₀.push { cls := .type "super", data := .fields #[.none, .none, .none] }) := fun y o e => Heap.get?_push_of_some _ e
  have hso : (h₀.push { cls := .type "super", data := .fields #[.none, .none, .none] }).get? h₀.objs.size = some { cls := .type "super", dict := none, data := .fields #[.none, .none, .none], slots := #[] } := Heap.get?_push_at rfl rfl
  have hc' := up _ _ hc
  generalize h₀.push { cls := .type "super", data := .fields #[.none, .none, .none] } = h1 at up hso hc' ⊢
  refine ⟨⟨_, hso, rfl⟩, F.ks_initArgs_super _ _ _, ?_⟩
  unfold Builtin.«super.__init__» noKeywords
  have hsub : ∀ {Q' : Bool → Shared → Prop} {A' : Around} {E' : Value → Shared → Prop}, Q' true ⟨h1, g, d, t, os⟩ → wpAny (model pw w) A' (isSubtype (.ref C) (.ref C)) Q' E' ⟨h1, g, d, t, os⟩ := fun h => subC hc' (by rw [hm]; exact List.cons_ne_nil _ _) (by rw [hm, List.contains_cons, beq_self_eq_true, Bool.true_or]; exact h)
  repeat (first | (with_reducible refine ks_wpAny_isType_cls hc' rfl ?_) | (with_reducible refine hsub ?_) | (with_reducible refine ks_wpAny_super_set3 hso ?_) | wp_step)
  all_goals first
    | (intro h' e k; exact ⟨rfl, hq h' e fun y o ey => k y o (Nat.ne_of_lt (Heap.lt_size ey)) (up y o ey)⟩)
    | (refine ks_wpAny_super_set3 hso ?_; intro h' e k; exact ⟨rfl, hq h' e fun y o ey => k y o (Nat.ne_of_lt (Heap.lt_size ey)) (up y o ey)⟩)
end
end Mine
end

-- part H12b
section
open PySem PySem.W PySem.Calls PyProof.Rows
set_option Elab.async false
set_option maxRecDepth 100000
namespace Mine
namespace VE
theorem ty_isub : typeOf (.builtin "object.__init_subclass__") = pure (.type "classmethod_descriptor") := by show builtinType _ = _; rw [builtinType_eq_fast]; kernel_rfl
theorem ty_prep : typeOf (.builtin "type.__prepare__") = pure (.type "classmethod_descriptor") := by show builtinType _ = _; rw [builtinType_eq_fast]; kernel_rfl
theorem owner_isub : (kfb_private% "ownerAndName") "object.__init_subclass__" = ("object", "__init_subclass__") := by first | decide +kernel | kernel_rfl
theorem owner_prep : (kfb_private% "ownerAndName") "type.__prepare__" = ("type", "__prepare__") := by first | decide +kernel | kernel_rfl
theorem own1 : classOwn (.type "ValueError") "__init_subclass__" = pure none := by kernel_rfl
theorem own2 : classOwn (.type "Exception") "__init_subclass__" = pure none := by kernel_rfl
theorem own3 : classOwn (.type "BaseException") "__init_subclass__" = pure none := by kernel_rfl
theorem own4 : classOwn (.type "object") "__init_subclass__" = pure (some (.builtin "object.__init_subclass__")) := by kernel_rfl
theorem cm_get : typeLookup (.type "classmethod_descriptor") "__get__" = pure (some (.builtin "classmethod_descriptor.__get__")) := KFB.slot_get.lookup
theorem entry_isub : entryFor table "object.__init_subclass__" = some Builtin.«object.__init_subclass__» := entryFor_of_tree (by kernel_rfl)
theorem sig_isub : Manifest.signature? "object.__init_subclass__" = some ⟨.noArgs, "object.__init_subclass__", "__init_subclass__", .cls, []⟩ := by kernel_rfl
theorem kind_isub : builtinKind "object.__init_subclass__" = some .classMethod := by kernel_rfl
theorem sub_type_mod : isSubtype (.type "type") (.type "module") = pure false := by rw [isSubtype_type]; kernel_rfl
theorem chk0 (v : Value) : Bind.checkArgs "object.__init_subclass__" ⟨.noArgs, (toString (Str.ofString "TOMLDecodeError").toString ++ toString "." ++ toString (Bind.lastOf "object.__init_subclass__")), "__init_subclass__", .cls, []⟩ ⟨[v], []⟩ = pure () := by kernel_rfl
theorem vm : Manifest.varargsMethods.contains "object.__init_subclass__" = false := by kernel_rfl
theorem entry_prep : entryFor table "type.__prepare__" = some Builtin.«type.__prepare__» := entryFor_of_tree (by kernel_rfl)
end VE
section
variable {w : World} {A : Around} {E : Value → Shared → Prop} {h₀ : Heap} {g : Array GenState} {d : Drawn} {t : Nat} {os : OsState} {C : Addr}

abbrev bndO (id : String) (v : Value) : Obj := { cls := .type "builtin_function_or_method", data := .fields #[.builtin id, v] }

theorem isub_get {cd : ClassData} {sl : List (Option Value)} {P : Fin → Shared → Prop} (hc : h₀.get? C = some (cobj cd sl)) (hm : cd.mro = .ref C :: [.type "ValueError", .type "Exception", .type "BaseException", .type "object"])
    (h : ∀ h', h₀.StaysIn h' → h'.objs.size = h₀.objs.size + 1 → h'.get? h₀.objs.size = some (bndO "object.__init_subclass__" (.ref C)) → P (.done (.ret (.ref h₀.objs.size))) ⟨h', g, d, t, os⟩) :
    wpAny (model pw w) A (Builtin.«classmethod_descriptor.__get__» ⟨[.builtin "object.__init_subclass__", .none, .ref C], []⟩) P E ⟨h₀, g, d, t, os⟩ := by
  unfold Builtin.«classmethod_descriptor.__get__»
  refine wpAny_bind (wpAny_of_eq (a := (.builtin "object.__init_subclass__", none, some (.ref C))) (by first | rfl | kernel_rfl) ?_)
  simp only [VE.owner_isub]
  refine wpAny_bind (wpAny_pure ?_)
  refine wpAny_bind (ks_wpAny_isType_cls hc rfl ?_)
  refine wpAny_ite_false rfl ?_
  refine wpAny_bind (subC hc (by rw [hm]; exact List.cons_ne_nil _ _) ?_)
  rw [hm, show (Value.ref C :: [Value.type "ValueError", .type "Exception", .type "BaseException", .type "object"]).contains (.type "object") = true from by rw [List.contains_cons, show ([Value.type "ValueError", .type "Exception", .type "BaseException", .type "object"] : List Value).contains (.type "object") = true by decide, Bool.or_true]]
  refine wpAny_ite_false rfl ?_
  refine wpAny_bind ?_
  unfold newFields
  exact newC (show 2 ≤ sizeLine + 2 by rw [sizeLine_eq]; decide) fun h' k z e => wpAny_pure (h h' k z e)

theorem super_isub {so : Addr} {cd : ClassData} {sl : List (Option Value)} {tk : Tok} {Q : Fin → Shared → Prop} (hso : h₀.get? so = some (supO C)) (hc : h₀.get? C = some (cobj cd sl)) (hm : cd.mro = .ref C :: [.type "ValueError", .type "Exception", .type "BaseException", .type "object"])
    {ms : Str → Option Value} (hst : h₀.Ns cStatics ms) (hth : ms "thirdparty.any" = none)
    (h : ∀ h', h₀.StaysIn h' → h'.objs.size = h₀.objs.size + 1 → h'.get? h₀.objs.size = some (bndO "object.__init_subclass__" (.ref C)) → Q (.done (.ret (.ref h₀.objs.size))) ⟨h', g, d, t, os⟩) :
    wpAny (model pw w) A (Builtin.«super.__getattribute__» ⟨[.ref so, .str "__init_subclass__" tk], []⟩) Q E ⟨h₀, g, d, t, os⟩ := by
  have hdt : (supO C).data = .fields #[.ref C, .ref C, .ref C] := rfl
  have f0 : (#[.ref C, .ref C, .ref C] : Array Value)[0]? = some (.ref C) := rfl
  have f1 : (#[.ref C, .ref C, .ref C] : Array Value)[1]? = some (.ref C) := rfl
  have f2 : (#[.ref C, .ref C, .ref C] : Array Value)[2]? = some (.ref C) := rfl
  unfold Builtin.«super.__getattribute__»
  refine wpAny_bind (wpAny_pure ?_)
  refine wpAny_ite_false rfl ?_
  refine wpAny_bind (wpAny_pure ?_)
  refine wpAny_bind (wpAny_field hso hdt f0 ?_)
  refine wpAny_bind (wpAny_field hso hdt f1 ?_)
  refine wpAny_bind (wpAny_field hso hdt f2 ?_)
  refine wpAny_ite_false (by kernel_rfl) ?_
  refine wpAny_bind ?_
  unfold notOfAnOpaqueClass opaqueClassAbove anyOpaqueLoaded
  refine wpAny_bind ?_
  wp_delta
  refine wpAny_bind (wpAny_bind (wpAny_nsGet hst (wpAny_pure ?_)))
  rw [hth]
  refine wpAny_ite_true rfl (wpAny_pure ?_)
  wp_delta
  refine wpAny_pure ?_
  wp_delta
  refine wpAny_ite_false rfl ?_
  wp_delta
  refine wpAny_bind (mroC hc ?_)
  rw [hm, show List.drop 1 (List.dropWhile (fun x => x != Value.ref C) (Value.ref C :: [Value.type "ValueError", .type "Exception", .type "BaseException", .type "object"])) = [Value.type "ValueError", .type "Exception", .type "BaseException", .type "object"] from by rw [List.dropWhile_cons_of_neg (by simp)]; rfl]
  refine wpAny_bind ?_
  rw [List.forIn_cons]
  refine wpAny_bind (wpAny_bind (wpAny_of_eq VE.own1 (wpAny_pure ?_)))
  wp_delta
  rw [List.forIn_cons]
  refine wpAny_bind (wpAny_bind (wpAny_of_eq VE.own2 (wpAny_pure ?_)))
  wp_delta
  rw [List.forIn_cons]
  refine wpAny_bind (wpAny_bind (wpAny_of_eq VE.own3 (wpAny_pure ?_)))
  wp_delta
  rw [List.forIn_cons]
  refine wpAny_bind (wpAny_bind (wpAny_of_eq VE.own4 ?_))
  wp_delta
  refine wpAny_bind (wpAny_of_eq VE.ty_isub ?_)
  refine wpAny_bind (wpAny_of_eq VE.cm_get ?_)
  wp_delta
  rw [if_pos (beq_self_eq_true (Value.ref C))]
  refine wpAny_bind (wpAny_holding (wpAny_call_entry KFB.slot_get (show (⟨h₀, g, d, t, os⟩ : Shared).TypeIs (.builtin "object.__init_subclass__") "classmethod_descriptor" from VE.ty_isub) KFB.entry_get (isub_get hc hm fun h' k z e => ?_) (KFB.args_get _ _ _)))
  refine ⟨_, rfl, ?_⟩
  refine wpAny_bind (wpAny_pure (wpAny_pure ?_))
  wp_delta
  refine wpAny_pure ?_
  wp_delta
  exact wpAny_pure (h h' k z e)

/-- super(C, C).__init_subclass__ -/
theorem getAttr_isub {so : Addr} {cd : ClassData} {sl : List (Option Value)} {Q : Value → Shared → Prop} (hso : h₀.get? so = some (supO C)) (hc : h₀.get? C = some (cobj cd sl)) (hm : cd.mro = .ref C :: [.type "ValueError", .type "Exception", .type "BaseException", .type "object"])
    {ms : Str → Option Value} (hst : h₀.Ns cStatics ms) (hth : ms "thirdparty.any" = none)
    (h : ∀ h', h₀.StaysIn h' → h'.objs.size = h₀.objs.size + 1 → h'.get? h₀.objs.size = some (bndO "object.__init_subclass__" (.ref C)) → Q (.ref h₀.objs.size) ⟨h', g, d, t + 1, os⟩) :
    wpAny (model pw w) A (getAttr (.ref so) "__init_subclass__") Q E ⟨h₀, g, d, t, os⟩ := by
  have hlk := F.ks_slot_super_ga.lookup
  have hT : ∀ t', (⟨h₀, g, d, t', os⟩ : Shared).TypeIs (.ref so) "super" := fun _ => ⟨_, hso, rfl⟩
  unfold getAttr getAttrBy
  refine wpAny_bind (wpAny_mkText (wpAny_holding (wpAny_bind (wpAny_typeOf (hT _) (wpAny_bind (wpAny_of_eq hlk ?_))))))
  show wpAny _ _ (getAttrByItsOwn (.ref so) (.str "__init_subclass__" t) (.type "super") (.builtin "super.__getattribute__") true false) _ _ _
  unfold getAttrByItsOwn hookBefore callGetattribute boundAndCalled
  refine wpAny_bind (wpAny_of_eq (show (if onTheHeap (.type "super") then typeLookup (.type "super") "__getattr__" else pure none) = pure none from rfl) ?_)
  refine wpAny_bind (wpAny_attempt (wpAny_holding ?_))
  show wpAny _ _ (bindSpecial (.builtin "super.__getattribute__") (.ref so) >>= _) _ _ _
  refine wpAny_bind (wpAny_of_eq (F.ks_slot_super_ga.bind _) ?_)
  refine wpAny_mono (Q := fun v s' => v = .ref h₀.objs.size ∧ ∃ h', s' = ⟨h', g, d, t + 1, os⟩ ∧ h₀.StaysIn h' ∧ h'.objs.size = h₀.objs.size + 1 ∧ h'.get? h₀.objs.size = some (bndO "object.__init_subclass__" (.ref C))) (E := fun _ _ => False)
    (wpAny_call_entry F.ks_slot_super_ga (hT _) F.ks_entry_super_ga (super_isub hso hc hm hst hth fun h' k z e => ⟨_, rfl, rfl, h', rfl, k, z, e⟩) (F.ks_gaArgs_super _ _)) (fun v s' hv => ?_) fun _ _ z => z.elim
  obtain ⟨rfl, h', rfl, k, z, e⟩ := hv
  exact wpAny_pure (h h' k z e)

theorem chk_isub {cd : ClassData} {sl : List (Option Value)} {Q : Unit → Shared → Prop} (hc : h₀.get? C = some (cobj cd sl)) (hqn : cd.qualname = "TOMLDecodeError") (h : Q () ⟨h₀, g, d, t, os⟩) :
    wpAny (model pw w) A (checkBoundCall "object.__init_subclass__" ⟨[.ref C], []⟩) Q E ⟨h₀, g, d, t, os⟩ := by
  have hT : (⟨h₀, g, d, t, os⟩ : Shared).TypeIs (.ref C) "type" := ⟨_, hc, rfl⟩
  unfold checkBoundCall
  rw [VE.sig_isub, VE.kind_isub]
  wp_delta
  refine wpAny_ite_false rfl ?_
  try wp_delta
  refine wpAny_bind (wpAny_isInstance hT VE.sub_type_mod ?_)
  rw [VE.vm]
  refine wpAny_ite_false rfl ?_
  try wp_delta
  refine wpAny_bind (ks_wpAny_isType_cls hc rfl ?_)
  refine wpAny_ite_true rfl (wpAny_bind (wpAny_pure ?_))
  wp_delta
  refine wpAny_bind (classDataC hc ?_)
  rw [hqn]
  refine wpAny_bind (wpAny_typeOf hT ?_)
  refine wpAny_ite_true rfl ?_
  exact wpAny_of_eq (VE.chk0 _) h

/-- its call -/
theorem call_isub {b : Addr} {cd : ClassData} {sl : List (Option Value)} {Q : Value → Shared → Prop} (hc : h₀.get? C = some (cobj cd sl)) (hqn : cd.qualname = "TOMLDecodeError") (hb : h₀.get? b = some (bndO "object.__init_subclass__" (.ref C))) (h : Q .none ⟨h₀, g, d, t, os⟩) :
    wpAny (model pw w) A (call (.ref b) []) Q E ⟨h₀, g, d, t, os⟩ := by
  refine wpAny_call (codeAny_of_tree ?_)
  show wpAny _ _ (callAny (.ref b) _) _ _ _
  unfold callAny
  wp_delta
  refine wpAny_bind (wpAny_load hb ?_)
  wp_delta
  refine wpAny_ite_true rfl ?_
  wp_delta
  refine wpAny_ite_true rfl ?_
  refine wpAny_bind (chk_isub hc hqn (wpAny_pure ⟨Code.quiet_builtin _ (by decide +kernel), codeAny_builtin VE.entry_isub ?_⟩))
  unfold Builtin.«object.__init_subclass__»
  wp_delta
  refine wpAny_ite_true rfl ?_
  exact wpAny_pure h
end
end Mine
end

-- part H12
section
open PySem PySem.W PySem.Calls PyProof.Rows
set_option Elab.async false
set_option maxRecDepth 100000
namespace Mine

def es0 (x1 x2 x3 x4 : Int) (t1 t2 t3 t4 : Tok) (tm tq ti : Tok) (mod : Str) (line : Int) (tup : Addr) : List DictEntry :=
  [en x1 "__module__" t1 (.str mod tm), en x2 "__qualname__" t2 (.str "TOMLDecodeError" tq), en x3 "__firstlineno__" t3 (.int line ti), en x4 "__static_attributes__" t4 (.ref tup)]

def es1 (x1 x3 x4 : Int) (t1 t3 t4 : Tok) (tm ti : Tok) (mod : Str) (line : Int) (tup : Addr) : List DictEntry :=
  [en x1 "__module__" t1 (.str mod tm), en x3 "__firstlineno__" t3 (.int line ti), en x4 "__static_attributes__" t4 (.ref tup)]

def cdT (N C : Addr) (dict : Bool) : ClassData :=
  { name := "TOMLDecodeError", bases := [.type "ValueError"], mro := .ref C :: [.type "ValueError", .type "Exception", .type "BaseException", .type "object"], ns := N, qualname := "TOMLDecodeError", hasDict := dict }
theorem lk_new : typeLookup (.type "ValueError") "__new__" = pure (some (.builtin "ValueError.__new__")) := by rw [typeLookup_type, builtinLookup_eq_fast]; kernel_rfl
theorem install {M : Model} {A : Around} {E : Value → Shared → Prop} {h₀ : Heap} {g : Array GenState} {d : Drawn} {t : Nat} {os : OsState} {N C : Addr} {b : Bool} {sl : List (Option Value)} {Q : Unit → Shared → Prop} (hc : h₀.get? C = some (cobj (cdT N C b) sl))
    (h : ∀ h', Heap.SameBut C h₀ h' → h'.get? C = some (cobj (cdT N C true) sl) → Q () ⟨h', g, d, t, os⟩) :
    wpAny M A (Builtin.Slots.install (.ref C) N [.type "ValueError"] { dict := false }) Q E ⟨h₀, g, d, t, os⟩ := by
  unfold Builtin.Slots.install
  wp_delta
  rw [List.forIn_nil]
  refine wpAny_bind (wpAny_pure ?_)
  wp_delta
  rw [List.forIn_cons]
  refine wpAny_bind (wpAny_bind (wpAny_bind (wpAny_of_eq VE.dict ?_)))
  refine wpAny_ite_true rfl (wpAny_pure ?_)
  wp_delta
  rw [List.forIn_nil]
  refine wpAny_pure ?_
  wp_delta
  refine wpAny_ite_false (by decide) ?_
  wp_delta
  exact clsSetC hc rfl h

section
variable {w : World} {A : Around} {E : Value → Shared → Prop}

set_option maxHeartbeats 1000000 in
theorem tnew {hp : Heap} {g : Array GenState} {d : Drawn} {t : Nat} {os : OsState} {x1 x2 x3 x4 : Int} {t1 t2 t3 t4 tm tq ti tn : Tok} {mod : Str} {line : Int} {tup bT nsA : Addr} {n : Nat} {oU : Obj} {ms : Str → Option Value} {Q : Fin → Shared → Prop}
    (hB : hp.get? bT = some { cls := .type "tuple", data := .seq #[.type "ValueError"] })
    (hN : hp.get? nsA = some (dobj (es0 x1 x2 x3 x4 t1 t2 t3 t4 tm tq ti mod line tup) n)) (hns : nsA ≠ sysModules) (hU : hp.get? tup = some oU) (hUc : oU.cls = .type "tuple") (hst : hp.Ns cStatics ms) (hth : ms "thirdparty.any" = none)
    (hQ : ∀ h' t' C o, hp.StaysIn h' → h'.get? C = some o → o.cls = .type "type" → Q (.done (.ret (.ref C))) ⟨h', g, d, t', os⟩) :
    wpAny (model pw w) A (Builtin.«type.__new__» ⟨[.type "type", .str "TOMLDecodeError" tn, .ref bT, .ref nsA], []⟩) Q E ⟨hp, g, d, t, os⟩ := by
  have hTB : (⟨hp, g, d, t, os⟩ : Shared).TypeIs (.ref bT) "tuple" := ⟨_, hB, rfl⟩
  have hTN : (⟨hp, g, d, t, os⟩ : Shared).TypeIs (.ref nsA) "dict" := ⟨_, hN, rfl⟩
  have f1 := VE.tyVE
  have f2 := VE.sub_type_type
  have f3 := VE.turned
  have f4 := VE.ext
  have f5 := VE.sub_tup
  have f6 := VE.sub_dict
  have f7 := VE.hook
  have f8 := VE.lin
  have f9 := VE.made
  have f10 := VE.weak
  have f11 := VE.iter_dict
  have hif : (nsA == sysModules) = false := by simpa using hns
  have f12 := VE.read (es0 x1 x2 x3 x4 t1 t2 t3 t4 tm tq ti mod line tup).toArray rfl
  unfold Builtin.«type.__new__»
  iterate 44 wp_step
  rw [show ((some #[Value.type "ValueError"]).getD #[]).toList = [Value.type "ValueError"] from rfl]
  rw [show (if ([Value.type "ValueError"] : List Value).isEmpty = true then [Value.type "object"] else [Value.type "ValueError"]) = [Value.type "ValueError"] from rfl]
  iterate 19 wp_step
  refine wpAny_bind (newC (show 4 ≤ sizeLine + 1 by rw [sizeLine_eq]; decide) fun h1 k1 z1 n1 => ?_)
  iterate 1 wp_step
  refine wpAny_ite_false (by kernel_rfl) ?_
  iterate 2 wp_step
  refine wpAny_ite_false (by kernel_rfl) (wpAny_pure ?_)
  wp_delta
  refine wpAny_ite_false (by kernel_rfl) ?_
  wp_delta
  refine wpAny_bind (nsGetC n1 (r := some (.str "TOMLDecodeError" tq)) (by kernel_rfl) ?_)
  refine wpAny_bind (nsGetC n1 (r := some (.str "TOMLDecodeError" tq)) (by kernel_rfl) ?_)
  wp_delta
  refine wpAny_bind (wpAny_pure ?_)
  wp_delta
  refine wpAny_bind (wpAny_pure ?_)
  refine wpAny_bind (nsGetC n1 (r := none) (by kernel_rfl) ?_)
  wp_delta
  refine wpAny_bind (allocC rfl fun h2 k2 z2 c2 => ?_)
  have n2 := k2 _ _ n1
  wp_delta
  iterate 1 wp_step
  have hCN : h1.objs.size ≠ hp.objs.size := by rw [z1]; exact Nat.succ_ne_self _
  refine wpAny_bind (slotSetC (sl := []) (sl' := [some (.ref bT)]) c2 (by decide) rfl fun h3 b3 c3 => ?_)
  have n3 := (b3.2 _ (Ne.symm hCN)).trans n2
  refine wpAny_bind (slotSetC (sl' := [some (.ref bT), none, some (.str "TOMLDecodeError" tn)]) c3 (by decide) rfl fun h4 b4 c4 => ?_)
  have n4 := (b4.2 _ (Ne.symm hCN)).trans n3
  wp_delta
  refine wpAny_bind (slotSetC (sl' := [some (.ref bT), none, some (.str "TOMLDecodeError" tn), some (.str "TOMLDecodeError" tq)]) c4 (by decide) rfl fun h5 b5 c5 => ?_)
  have n5 := (b5.2 _ (Ne.symm hCN)).trans n4
  refine wpAny_bind (nsDelC (es' := es1 x1 x3 x4 t1 t3 t4 tm ti mod line tup) n5 (by kernel_rfl) (by kernel_rfl) fun h6 b6 n6 => ?_)
  have c6 := (b6.2 _ hCN).trans c5
  refine wpAny_bind (nsGetC n6 (r := none) (by kernel_rfl) ?_)
  wp_delta
  refine wpAny_bind ?_
  rw [List.forIn_cons]
  refine wpAny_bind (wpAny_bind (nsGetC n6 (r := none) (by kernel_rfl) (wpAny_pure ?_)))
  wp_delta
  rw [List.forIn_cons]
  refine wpAny_bind (wpAny_bind (nsGetC n6 (r := none) (by kernel_rfl) (wpAny_pure ?_)))
  wp_delta
  rw [List.forIn_nil]
  refine wpAny_pure ?_
  refine wpAny_bind (nsGetC n6 (r := none) (by kernel_rfl) ?_)
  wp_delta
  refine wpAny_bind (nsGetC n6 (r := none) (by kernel_rfl) ?_)
  wp_delta
  refine wpAny_bind (wpAny_of_eq f7 ?_)
  wp_delta
  refine wpAny_bind (wpAny_of_eq f8 ?_)
  refine wpAny_bind (wpAny_pure ?_)
  refine wpAny_bind (wpAny_of_eq (a := false) ?_ ?_)
  · rw [show List.filter (fun x => x != Value.ref h1.objs.size) (Value.ref h1.objs.size :: [.type "ValueError", .type "Exception", .type "BaseException", .type "object"]) = [.type "ValueError", .type "Exception", .type "BaseException", .type "object"] from by rw [List.filter_cons_of_neg (by simp)]; rfl]
    kernel_rfl
  refine wpAny_bind (clsSetC c6 rfl fun h7 b7 c7 => ?_)
  have n7 := (b7.2 _ (Ne.symm hCN)).trans n6
  refine wpAny_bind (wpAny_of_eq f9 ?_)
  refine wpAny_bind (slotSetC (sl' := [some (.ref bT), none, some (.str "TOMLDecodeError" tn), some (.str "TOMLDecodeError" tq), some (.builtin "ValueError.__new__")]) c7 (by decide) rfl fun h8 b8 c8 => ?_)
  have n8 := (b8.2 _ (Ne.symm hCN)).trans n7
  replace c8 : h8.get? h1.objs.size = some (cobj (cdT hp.objs.size h1.objs.size true) [some (.ref bT), none, some (.str "TOMLDecodeError" tn), some (.str "TOMLDecodeError" tq), some (.builtin "ValueError.__new__")]) := c8.trans (by kernel_rfl)
  refine wpAny_bind ?_
  unfold Bind.refreshMaker
  refine wpAny_bind (slotAtC c8 ?_)
  refine wpAny_ite_false rfl ?_
  refine wpAny_bind (lookC c8 rfl n8 (by kernel_rfl) lk_new ?_)
  wp_delta
  refine wpAny_ite_false (by kernel_rfl) (wpAny_pure ?_)
  refine wpAny_bind (install c8 fun h9 b9 c9 => ?_)
  have n9 := (b9.2 _ (Ne.symm hCN)).trans n8
  refine wpAny_bind (wpAny_of_eq f10 ?_)
  refine wpAny_bind (slotSetC (sl' := [some (.ref bT), none, some (.str "TOMLDecodeError" tn), some (.str "TOMLDecodeError" tq), some (.builtin "ValueError.__new__"), some (.bool true)]) c9 (by decide) rfl fun h10 b10 c10 => ?_)
  have n10 := (b10.2 _ (Ne.symm hCN)).trans n9
  wp_delta
  refine wpAny_ite_false rfl ?_
  wp_delta
  refine wpAny_ite_true rfl ?_
  refine wpAny_bind (nsGetC n10 (r := none) (by kernel_rfl) ?_)
  refine wpAny_ite_true rfl ?_
  refine wpAny_bind (wpAny_mkStr' ?_)
  refine wpAny_bind ?_
  unfold newFields
  refine newC (show 4 ≤ sizeLine + 2 by rw [sizeLine_eq]; decide) fun h11 k11 z11 g11 => ?_
  have n11 := k11 _ _ n10
  have c11 := k11 _ _ c10
  refine wpAny_bind (nsSetC n11 (by kernel_rfl) (by intro x key; kernel_rfl) fun x5 h12 b12 n12 => ?_)
  have hGN : h10.objs.size ≠ hp.objs.size := Nat.ne_of_gt (Heap.lt_size n10)
  have c12 := (b12.2 _ hCN).trans c11
  have g12 := (b12.2 _ hGN).trans g11
  wp_delta
  refine wpAny_bind (nsGetC n12 (r := none) (by kernel_rfl) ?_)
  wp_delta
  refine wpAny_ite_true rfl ?_
  refine wpAny_bind (nsSetC n12 (by kernel_rfl) (by intro x key; kernel_rfl) fun x6 h13 b13 n13 => ?_)
  have c13 := (b13.2 _ hCN).trans c12
  have g13 := (b13.2 _ hGN).trans g12
  wp_delta
  refine wpAny_bind (nsGetC n13 (r := none) (by kernel_rfl) ?_)
  wp_delta
  refine wpAny_ite_false rfl ?_
  wp_delta
  refine wpAny_bind ?_
  rw [List.forIn_cons]
  refine wpAny_bind ?_
  wp_delta
  refine wpAny_bind (wpAny_of_eq (VE.note _) (wpAny_pure ?_))
  wp_delta
  rw [List.forIn_nil]
  refine wpAny_pure ?_
  wp_delta
  refine wpAny_bind (wpAny_tryCatch (wpAny_holding ?_))
  replace n13 : h13.get? hp.objs.size = some (dobj [en x1 "__module__" t1 (.str mod tm), en x3 "__firstlineno__" t3 (.int line ti), en x4 "__static_attributes__" t4 (.ref tup), en x5 "__weakref__" (t + 1) (.ref h10.objs.size), en x6 "__doc__" (t + 1 + 1) .none] (0 + 1 + 1 + 1)) := n13
  wp_delta
  refine wpAny_bind (wpAny_dictEntries n13 rfl ?_)
  rw [List.forIn_toArray]
  refine wpAny_bind ?_
  rw [List.forIn_cons]
  refine wpAny_bind (wpAny_bind (wpAny_pure (wpAny_ite_false rfl (wpAny_pure ?_))))
  wp_delta
  rw [List.forIn_cons]
  refine wpAny_bind (wpAny_bind (wpAny_pure (wpAny_ite_false rfl (wpAny_pure ?_))))
  wp_delta
  rw [List.forIn_cons]
  refine wpAny_bind (wpAny_bind (wpAny_pure (wpAny_ite_false rfl (wpAny_pure ?_))))
  wp_delta
  rw [List.forIn_cons]
  refine wpAny_bind (wpAny_bind (wpAny_pure (wpAny_ite_false rfl (wpAny_pure ?_))))
  wp_delta
  rw [List.forIn_cons]
  refine wpAny_bind (wpAny_bind (wpAny_pure (wpAny_ite_false rfl (wpAny_pure ?_))))
  wp_delta
  rw [List.forIn_nil]
  refine wpAny_pure ?_
  wp_delta
  refine wpAny_ite_false rfl ?_
  wp_delta
  refine wpAny_bind (wpAny_dictEntries n13 rfl ?_)
  rw [List.forIn_toArray]
  refine wpAny_bind ?_
  have kk13 : hp.StaysIn h13 := fun b o e => by
    have hb := Heap.lt_size e
    have hN : b ≠ hp.objs.size := Nat.ne_of_lt hb
    have hC : b ≠ h1.objs.size := by rw [z1]; exact Nat.ne_of_lt (Nat.lt_succ_of_lt hb)
    exact (b13.2 b hN).trans ((b12.2 b hN).trans (k11 b o ((b10.2 b hC).trans ((b9.2 b hC).trans ((b8.2 b hC).trans ((b7.2 b hC).trans ((b6.2 b hN).trans ((b5.2 b hC).trans ((b4.2 b hC).trans ((b3.2 b hC).trans (k2 b o (k1 b o e))))))))))))
  rw [List.forIn_cons]
  refine wpAny_bind (wpAny_ite_false rfl (wpAny_bind (wpAny_specialOf (typeIs_str _ _ _) VE.sn_str (wpAny_pure ?_))))
  wp_delta
  rw [List.forIn_cons]
  refine wpAny_bind (wpAny_ite_false rfl (wpAny_bind (wpAny_specialOf (typeIs_int _ _ _) VE.sn_int (wpAny_pure ?_))))
  wp_delta
  rw [List.forIn_cons]
  refine wpAny_bind (wpAny_ite_false rfl (wpAny_bind (wpAny_specialOf (⟨_, kk13 _ _ hU, hUc⟩) VE.sn_tup (wpAny_pure ?_))))
  wp_delta
  rw [List.forIn_cons]
  refine wpAny_bind (wpAny_ite_false rfl (wpAny_bind (wpAny_specialOf (⟨_, g13, rfl⟩) VE.sn_gs (wpAny_pure ?_))))
  wp_delta
  rw [List.forIn_cons]
  refine wpAny_bind (wpAny_ite_false rfl (wpAny_bind (wpAny_specialOf (typeIs_none _) VE.sn_none (wpAny_pure ?_))))
  wp_delta
  rw [List.forIn_nil]
  refine wpAny_pure ?_
  refine wpAny_bind (superC c13 rfl fun h14 s14 k14 => ?_)
  have c14 := k14 _ _ c13
  refine wpAny_bind (wpAny_holding (getAttr_isub s14 c14 rfl ((hst.keeps kk13).keeps k14) hth fun h15 k15 z15 g15 => ?_))
  have c15 := k15 _ _ c14
  refine wpAny_bind (call_isub c15 rfl g15 (wpAny_pure ?_))
  refine wpAny_pure (hQ _ _ _ _ (fun b o e => k15 _ _ (k14 _ _ (kk13 b o e))) c15 rfl)
end
end Mine
end

-- part H13
section
open PySem PySem.W PySem.Calls PyProof.Rows
set_option Elab.async false
set_option maxRecDepth 100000
namespace Mine
namespace VE
theorem mroT : mroOf (.type "type") = pure [.type "type", .type "object"] := by rw [mroOf_type]; kernel_rfl
theorem lkTnew : typeLookup (.type "type") "__new__" = pure (some (.builtin "type.__new__")) := by rw [typeLookup_type, builtinLookup_eq_fast]; kernel_rfl
theorem madeT : Bind.madeBy (.type "type") = pure (some "type.__new__") := madeBy_type mroT lkTnew (by decide +kernel)
theorem slot_tinit : Slot "type" "__init__" "type.__init__" :=
  .of (owner := "type") (n := "__init__") (by rw [typeLookup_type, builtinLookup_eq_fast]; kernel_rfl) (by decide +kernel) (by decide +kernel) (by decide +kernel)
    (by first | exact .inl (by decide +kernel) | exact .inr (by decide +kernel)) (by rw [isSubtype_type]; kernel_rfl)
theorem entry_tnew : entryFor table "type.__new__" = some Builtin.«type.__new__» := entryFor_of_tree (by kernel_rfl)
theorem entry_tinit : entryFor table "type.__init__" = some Builtin.«type.__init__» := entryFor_of_tree (by kernel_rfl)
theorem args_tinit (a b c e : Value) : argsOk "type.__init__" ⟨[a, b, c, e], []⟩ := by unfold argsOk; kernel_rfl
theorem chk_tnew (b c e : Value) : checkBuiltinCall "type.__new__" ⟨[.type "type", b, c, e], []⟩ = pure () := by kernel_rfl
theorem chk_tcall (b c e : Value) : checkTypeCall "type" ⟨[b, c, e], []⟩ = pure () := by kernel_rfl
theorem noNew : ((Manifest.find? "type").bind (·.mro.findSome? fun t => (Manifest.find? t).bind fun b => if b.noNew then some true else if b.attrs.any (·.1 == "__new__") then some false else none)).getD false = false := by kernel_rfl
theorem plain_tnew : plainId "type.__new__" = true := by decide +kernel
end VE
section
variable {w : World} {A : Around} {E : Value → Shared → Prop}

theorem call_type3 {hp : Heap} {g : Array GenState} {d : Drawn} {t : Nat} {os : OsState} {x1 x2 x3 x4 : Int} {t1 t2 t3 t4 tm tq ti tn : Tok} {mod : Str} {line : Int} {tup bT nsA : Addr} {n : Nat} {oU : Obj} {ms : Str → Option Value} {Q : Value → Shared → Prop}
    (hB : hp.get? bT = some { cls := .type "tuple", data := .seq #[.type "ValueError"] })
    (hN : hp.get? nsA = some (dobj (es0 x1 x2 x3 x4 t1 t2 t3 t4 tm tq ti mod line tup) n)) (hns : nsA ≠ sysModules) (hU : hp.get? tup = some oU) (hUc : oU.cls = .type "tuple") (hst : hp.Ns cStatics ms) (hth : ms "thirdparty.any" = none)
    (hQ : ∀ h' t' C o, hp.StaysIn h' → h'.get? C = some o → o.cls = .type "type" → Q (.ref C) ⟨h', g, d, t', os⟩) :
    wpAny (model pw w) A (call (.type "type") [.str "TOMLDecodeError" tn, .ref bT, .ref nsA]) Q E ⟨hp, g, d, t, os⟩ := by
  refine wpAny_call (codeAny_of_tree ?_)
  show wpAny _ _ (callAny (.type "type") _) _ _ _
  refine wpAny_pure ⟨Code.quiet_builtin _ (by decide +kernel), codeAny_builtin F.entry_type_call ?_⟩
  rw [Around.under_plain (weight_type_call_type _ _ []) rfl]
  unfold Builtin.«type.__call__»
  wp_delta
  refine wpAny_ite_true rfl ?_
  refine wpAny_ite_false rfl ?_
  try wp_delta
  refine wpAny_ite_false rfl ?_
  try wp_delta
  refine wpAny_ite_false (by rw [VE.noNew]; rfl) ?_
  try wp_delta
  refine wpAny_bind (wpAny_of_eq (VE.chk_tcall _ _ _) ?_)
  try wp_delta
  refine wpAny_bind (wpAny_of_eq VE.mroT ?_)
  try wp_delta
  refine wpAny_ite_false rfl ?_
  try wp_delta
  refine wpAny_bind (wpAny_of_eq VE.madeT ?_)
  try wp_delta
  refine wpAny_bind (wpAny_pure ?_)
  refine wpAny_bind (wpAny_holding (wpAny_call (codeAny_call_builtin VE.plain_tnew VE.entry_tnew (wpAny_of_eq (VE.chk_tnew _ _ _) (tnew hB hN hns hU hUc hst hth fun h' t' C o k hC ho => ?_)))))
  have hT : (⟨h', g, d, t', os⟩ : Shared).TypeIs (.ref C) "type" := ⟨_, hC, ho⟩
  try wp_delta
  refine wpAny_bind (wpAny_isInstance hT VE.sub_type_type ?_)
  refine wpAny_ite_false rfl ?_
  try wp_delta
  refine wpAny_bind (wpAny_holding (wpAny_callSpecial?_slot (name := Str.ofString "__init__") hT VE.slot_tinit (wpAny_call_entry VE.slot_tinit hT VE.entry_tinit ?_ (VE.args_tinit _ _ _ _))))
  unfold Builtin.«type.__init__»
  wp_delta
  refine wpAny_ite_false rfl ?_
  try wp_delta
  refine wpAny_ite_false rfl ?_
  try wp_delta
  refine wpAny_pure ⟨_, rfl, ?_⟩
  try wp_delta
  refine wpAny_ite_false rfl ?_
  try wp_delta
  exact wpAny_pure (hQ _ _ _ _ k hC ho)
end
end Mine
end

-- part H14
section
open PySem PySem.W PySem.Calls PyProof.Rows
set_option Elab.async false
set_option maxRecDepth 100000
namespace Mine
namespace VE
theorem lk_prep : typeLookup (.type "type") "__prepare__" = pure (some (.builtin "type.__prepare__")) := by rw [typeLookup_type, builtinLookup_eq_fast]; kernel_rfl
theorem cm_set : typeLookup (.type "classmethod_descriptor") "__set__" = pure none := by rw [typeLookup_type, builtinLookup_eq_fast]; kernel_rfl
theorem cm_del : typeLookup (.type "classmethod_descriptor") "__delete__" = pure none := by rw [typeLookup_type, builtinLookup_eq_fast]; kernel_rfl
theorem opq : opaqueClassAbove (.type "type") = pure none := by kernel_rfl
theorem chk_prep (a b : Value) : checkBoundCall "type.__prepare__" ⟨[.type "type", a, b], []⟩ = pure () := by kernel_rfl
end VE
section
variable {w : World} {A : Around} {E : Value → Shared → Prop} {h₀ : Heap} {g : Array GenState} {d : Drawn} {t : Nat} {os : OsState}

theorem prep_get {P : Fin → Shared → Prop}
    (h : ∀ h', h₀.StaysIn h' → h'.objs.size = h₀.objs.size + 1 → h'.get? h₀.objs.size = some (bndO "type.__prepare__" (.type "type")) → P (.done (.ret (.ref h₀.objs.size))) ⟨h', g, d, t, os⟩) :
    wpAny (model pw w) A (Builtin.«classmethod_descriptor.__get__» ⟨[.builtin "type.__prepare__", .none, .type "type"], []⟩) P E ⟨h₀, g, d, t, os⟩ := by
  unfold Builtin.«classmethod_descriptor.__get__»
  refine wpAny_bind (wpAny_of_eq (a := (.builtin "type.__prepare__", none, some (.type "type"))) (by first | rfl | kernel_rfl) ?_)
  simp only [VE.owner_prep]
  refine wpAny_bind (wpAny_pure ?_)
  refine wpAny_bind (wpAny_of_eq VE.isTT ?_)
  refine wpAny_ite_false rfl ?_
  refine wpAny_bind (wpAny_of_eq VE.sub_type_type ?_)
  refine wpAny_ite_false rfl ?_
  refine wpAny_bind ?_
  unfold newFields
  exact newC (show 2 ≤ sizeLine + 2 by rw [sizeLine_eq]; decide) fun h' k z e => wpAny_pure (h h' k z e)

theorem prep_tga {tk : Tok} {Q : Fin → Shared → Prop}
    (h : ∀ h', h₀.StaysIn h' → h'.objs.size = h₀.objs.size + 1 → h'.get? h₀.objs.size = some (bndO "type.__prepare__" (.type "type")) → Q (.done (.ret (.ref h₀.objs.size))) ⟨h', g, d, t, os⟩) :
    wpAny (model pw w) A (Builtin.«type.__getattribute__» ⟨[.type "type", .str "__prepare__" tk], []⟩) Q E ⟨h₀, g, d, t, os⟩ := by
  have hP : (⟨h₀, g, d, t, os⟩ : Shared).TypeIs (.builtin "type.__prepare__") "classmethod_descriptor" := VE.ty_prep
  unfold Builtin.«type.__getattribute__»
  refine wpAny_bind (wpAny_pure ?_)
  wp_delta
  refine wpAny_bind (wpAny_of_eq VE.opq ?_)
  try wp_delta
  refine wpAny_bind (wpAny_of_eq VE.tyT ?_)
  refine wpAny_bind (wpAny_of_eq VE.lk_prep ?_)
  try wp_delta
  refine wpAny_bind (wpAny_specialOf hP VE.cm_get ?_)
  try wp_delta
  refine wpAny_bind (wpAny_specialOf hP VE.cm_set ?_)
  try wp_delta
  refine wpAny_ite_false rfl ?_
  try wp_delta
  refine wpAny_bind (wpAny_specialOf hP VE.cm_del ?_)
  refine wpAny_bind (wpAny_pure ?_)
  try wp_delta
  refine wpAny_ite_false rfl ?_
  try wp_delta
  refine wpAny_bind (wpAny_of_eq VE.lk_prep ?_)
  try wp_delta
  refine wpAny_ite_false (by kernel_rfl) ?_
  try wp_delta
  refine wpAny_bind (wpAny_of_eq VE.ty_prep ?_)
  refine wpAny_ite_false (by kernel_rfl) ?_
  try wp_delta
  refine wpAny_bind (wpAny_specialOf hP VE.cm_get ?_)
  try wp_delta
  refine wpAny_bind (wpAny_holding (wpAny_call_entry KFB.slot_get hP KFB.entry_get (prep_get fun h' k z e => ?_) (KFB.args_get _ _ _)))
  exact ⟨_, rfl, wpAny_pure (h h' k z e)⟩

theorem prep_attr {Q : Option Value → Shared → Prop}
    (h : ∀ h', h₀.StaysIn h' → h'.objs.size = h₀.objs.size + 1 → h'.get? h₀.objs.size = some (bndO "type.__prepare__" (.type "type")) → Q (some (.ref h₀.objs.size)) ⟨h', g, d, t + 1, os⟩) :
    wpAny (model pw w) A (getAttr? (.type "type") "__prepare__") Q E ⟨h₀, g, d, t, os⟩ := by
  have hlk := KF.slot_tga.lookup
  have hT : (⟨h₀, g, d, t + 1, os⟩ : Shared).TypeIs (.type "type") "type" := VE.tyT
  unfold getAttr? getAttrBy? getAttrBy
  refine wpAny_bind (wpAny_mkText (wpAny_bind (wpAny_attempt (wpAny_holding (wpAny_bind (wpAny_of_eq VE.tyT (wpAny_bind (wpAny_of_eq hlk ?_))))))))
  show wpAny _ _ (getAttrByItsOwn (.type "type") (.str "__prepare__" t) (.type "type") (.builtin "type.__getattribute__") false false) _ _ _
  unfold getAttrByItsOwn hookBefore callGetattribute boundAndCalled
  refine wpAny_bind (wpAny_of_eq (show (if onTheHeap (.type "type") then typeLookup (.type "type") "__getattr__" else pure none) = pure none from rfl) ?_)
  refine wpAny_bind (wpAny_attempt (wpAny_holding ?_))
  show wpAny _ _ (bindSpecial (.builtin "type.__getattribute__") (.type "type") >>= _) _ _ _
  refine wpAny_bind (wpAny_of_eq (KF.slot_tga.bind _) ?_)
  refine wpAny_mono (Q := fun v s' => v = .ref h₀.objs.size ∧ ∃ h', s' = ⟨h', g, d, t + 1, os⟩ ∧ h₀.StaysIn h' ∧ h'.objs.size = h₀.objs.size + 1 ∧ h'.get? h₀.objs.size = some (bndO "type.__prepare__" (.type "type"))) (E := fun _ _ => False)
    (wpAny_call_entry KF.slot_tga hT KF.entry_tga (prep_tga fun h' k z e => ⟨_, rfl, rfl, h', rfl, k, z, e⟩) (KF.args_tga _ _)) (fun v s' hv => ?_) fun _ _ z => z.elim
  obtain ⟨rfl, h', rfl, k, z, e⟩ := hv
  exact wpAny_pure (wpAny_pure (h h' k z e))

theorem prep_call {b : Addr} {nameV basesT : Value} {Q : Value → Shared → Prop} (hb : h₀.get? b = some (bndO "type.__prepare__" (.type "type")))
    (h : ∀ h', h₀.StaysIn h' → h'.objs.size = h₀.objs.size + 1 → h'.get? h₀.objs.size = some (dobj [] 0) → Q (.ref h₀.objs.size) ⟨h', g, d, t, os⟩) :
    wpAny (model pw w) A (call (.ref b) [nameV, basesT]) Q E ⟨h₀, g, d, t, os⟩ := by
  refine wpAny_call (codeAny_of_tree ?_)
  show wpAny _ _ (callAny (.ref b) _) _ _ _
  unfold callAny
  wp_delta
  refine wpAny_bind (wpAny_load hb ?_)
  wp_delta
  refine wpAny_ite_true rfl ?_
  wp_delta
  refine wpAny_ite_true rfl ?_
  refine wpAny_bind (wpAny_of_eq (VE.chk_prep _ _) (wpAny_pure ⟨Code.quiet_builtin _ (by decide +kernel), codeAny_builtin VE.entry_prep ?_⟩))
  unfold Builtin.«type.__prepare__» newDict
  exact wpAny_bind (newC (show 0 ≤ sizeLine + 1 from Nat.zero_le _) fun h' k z e => wpAny_pure (h h' k z e))
end
end Mine
end

-- part H15
section
open PySem PySem.W PySem.Calls PyProof.Rows
set_option Elab.async false
set_option maxRecDepth 100000
namespace Mine
section
variable {M : Model} {A : Around} {E : Value → Shared → Prop} {s : Shared}
theorem clsCode {env : Env} {c P : Addr} {ps : Array Value} {pos : Pos} {fl : Nat} {name qualname : Str} {scope : Scope} {Q : Value → Shared → Prop} (hc : env.code = .ref c) (hok : s.heap.IsCode c P ps) (hnf : codeAmong pos ps.toList = none)
    (hQ : ∀ c' h' tk, Heap.ExtBut P s.heap h' → s.heap.objs.size ≤ c' → h'.IsCode c P (ps ++ #[rawInt pos.line, rawInt pos.col, .ref c']) → Q (.ref c') { s with heap := h', toks := tk }) :
    wpAny M A (classCode env pos fl name qualname scope) Q E s := by
  obtain ⟨o, vs, file, tf, flags, tg, inF, text, tt, op, ho, hd, h11, h2, h7, h9, h10, hop, hpd, htr, hne⟩ := id hok
  unfold classCode codeAt
  rw [hc, if_neg (show ¬ ((Value.ref c == Value.none) = true) from Bool.false_ne_true)]
  refine wpAny_bind (wpAny_fieldsOf ho hd ?_)
  rw [h11]
  refine wpAny_bind (wpAny_fieldsOf hop hpd ?_)
  rw [hnf, h2, h7, h9, h10]
  refine wpAny_bind (wpAny_newCode fun c' P' h' tk hk hc' hP' hcode' hrec' => ?_)
  have hop' := hk _ _ hop
  refine wpAny_bind (wpAny_updateFieldsOfTheText hop' hpd ?_)
  have hnew : (Obj.mapFields (fun vs => if (codeAmong pos vs.toList).isSome = true then vs else vs ++ #[rawInt pos.line, rawInt pos.col, .ref c']) op).data =
      .fields (ps ++ #[rawInt pos.line, rawInt pos.col, .ref c']) := by
    rw [Obj.data_mapFields hpd, hnf]; rfl
  have hget := Heap.get?_update_self (h := h') (fun o => Obj.mapFields (fun vs => if (codeAmong pos vs.toList).isSome = true then vs else
    vs ++ #[rawInt pos.line, rawInt pos.col, .ref c']) o) hop' (Obj.isFreed_of_fields hnew)
  refine wpAny_bind (wpAny_fieldsOf hget hnew ?_)
  have hl : (ps ++ #[rawInt pos.line, rawInt pos.col, Value.ref c']).toList = ps.toList ++ [rawInt pos.line, rawInt pos.col, .ref c'] := by simp
  rw [hl, codeAmong_snoc _ htr hnf]
  refine wpAny_pure (hQ _ _ _ (fun b o' hb e => ((Heap.SameBut.update ..).extBut b o' hb (hk b o' e))) hc' ?_)
  exact ⟨o, vs, file, tf, flags, tg, inF, text, tt, _, (Heap.SameBut.update ..).extBut _ _ hne (hk _ _ ho), hd, h11, h2, h7, h9, h10, hget, hnew,
    by rw [hl]; exact TriplesOk_snoc _ _ _ _ htr, hne⟩
end
end Mine
end

-- part H15b
section
open PySem PySem.W PySem.Calls PyProof.Rows
set_option Elab.async false
set_option maxRecDepth 100000
namespace Mine
section
variable {M : Model} {A : Around} {E : Value → Shared → Prop} {h₀ : Heap} {g : Array GenState} {d : Drawn} {t : Nat} {os : OsState} {env : Env}
theorem storeCls {es : List DictEntry} {n : Nat} {name : Str} {v : Value} {Q : Unit → Shared → Prop} (hk : env.scope.kind = .class) (hsc : env.scope.names = []) (hown : compilersOwnNames.contains name = true)
    (ho : h₀.get? env.locals = some (dobj es n)) (hr : aRefKeyMayBeTheName name es.toArray = false)
    (hp : ∀ x key, Obj.putName name x key v (dobj es n) = dobj (es ++ [⟨x, key, v⟩]) (n + 1))
    (h : ∀ x h', Heap.SameBut env.locals h₀ h' → h'.get? env.locals = some (dobj (es ++ [en x name t v]) (n + 1)) → Q () ⟨h', g, d, t + 1, os⟩) :
    wpAny M A (storeName env name v) Q E ⟨h₀, g, d, t, os⟩ := by
  have e1 : env.kindOf name = none := by unfold Env.kindOf; rw [hsc]; rfl
  have e2 : env.blockKind = .class := by unfold Env.blockKind; rw [hk]; rfl
  unfold storeName
  rw [e1, e2, hk, hown]
  show wpAny M A (localSet env name v) Q E _
  unfold localSet
  refine wpAny_bind (wpAny_load ho ?_)
  refine wpAny_ite_true rfl ?_
  exact nsSetC ho hr hp h
theorem loadCls {es : List DictEntry} {n : Nat} {name : Str} {v : Value} {mg : Str → Option Value} {Q : Value → Shared → Prop} (hk : env.scope.kind = .class) (hsc : env.scope.names = []) (hown : compilersOwnNames.contains name = true)
    (ho : h₀.get? env.locals = some (dobj es n)) (hl : nsLook name (dobj es n) = pure none) (hg : h₀.Ns env.globals mg) (hv : mg name = some v) (h : Q v ⟨h₀, g, d, t, os⟩) :
    wpAny M A (loadName env name) Q E ⟨h₀, g, d, t, os⟩ := by
  have e1 : env.kindOf name = none := by unfold Env.kindOf; rw [hsc]; rfl
  have e2 : env.blockKind = .class := by unfold Env.blockKind; rw [hk]; rfl
  unfold loadName
  rw [e1, e2, hk, hown]
  simp only [ScopeKind.isAnnotationScope, Bool.false_and, Bool.false_eq_true, if_false, Bool.not_true]
  refine wpAny_bind ?_
  unfold localGet
  refine wpAny_bind (wpAny_load ho ?_)
  refine wpAny_ite_true rfl ?_
  refine nsGetC ho hl ?_
  exact loadGlobal_global (env := env) hg hv h
end
end Mine
end

-- part H16
section
open PySem PySem.W PySem.Calls PyProof.Rows
set_option Elab.async false
set_option maxRecDepth 100000
namespace Mine
section
variable {P : Params} {l : List (Str × Value)} {c Pl F : Addr} {ps : List Value} {w : World} {A : Around} {E : Value → Shared → Prop}

theorem TP.code {s : Shared} {a b v : Value} {h' : Heap} {tk : Tok} (T : TP P s l c Pl ps) (hx : Heap.ExtBut Pl s.heap h') (hc : h'.IsCode c Pl (ps.toArray ++ #[a, b, v])) : TP P { s with heap := h', toks := tk } l c Pl (ps ++ [a, b, v]) := by
  have hps : ps.toArray ++ #[a, b, v] = (ps ++ [a, b, v]).toArray := by simp
  obtain ⟨⟨g, code, low, bm, o, a1, a2, a3, a4, a5, a6⟩, old, lowc, ms, hn, hk⟩ := T
  refine ⟨⟨g.extBut hx (Nat.ne_of_lt low.2), hps ▸ hc, low, bm, o, a1, a2, a3, a4, hx _ _ a4 a5, a6⟩, fun b o h1 h2 e => hx b o (fun q => ?_) (old b o h1 h2 e), lowc, ms, hn.extBut hx (Nat.ne_of_lt (Nat.lt_of_lt_of_le (show 2 < 11 by decide) lowc.2)), hk⟩
  subst q
  exact absurd (Heap.lt_size e) (Nat.not_lt.mpr lowc.2)

set_option maxHeartbeats 1000000 in
theorem bldCls {hp : Heap} {g : Array GenState} {d : Drawn} {t : Nat} {os : OsState} {scope : Scope} {pos pp : Pos} {fl : Nat} {mod : Str} {tm : Tok} {Q : Value → Shared → Prop} (hsc : scope.names = []) (hk : scope.kind = .class) (hroom : A.depth < recursionLimit) (T : TP P ⟨hp, g, d, t, os⟩ l c Pl ps)
    (hname : GM' P l "__name__" = some (.str mod tm)) (hnf : codeAmong pos ps = none)
    (h : ∀ h' t' a c', TP P ⟨h', g, d, t', os⟩ l c Pl (ps ++ [rawInt pos.line, rawInt pos.col, .ref c']) → Kp Pl ⟨hp, g, d, t, os⟩ ⟨h', g, d, t', os⟩ → Q (.ref a) ⟨h', g, d, t', os⟩) :
    wpAny (model pw w) A (buildClass "TOMLDecodeError" "TOMLDecodeError" [.type "ValueError"] [] [.Pass pp] scope [] fl (mainEnv pw c F) pos none) Q E ⟨hp, g, d, t, os⟩ := by
  unfold buildClass newTuple
  refine wpAny_bind (newC (show 1 ≤ sizeLine by rw [sizeLine_eq]; decide) fun h1 k1 z1 b1 => ?_)
  try wp_delta
  refine wpAny_bind ?_
  rw [List.forIn_cons]
  refine wpAny_bind (wpAny_bind (wpAny_of_eq VE.isT ?_))
  try wp_delta
  refine wpAny_ite_true rfl ?_
  try wp_delta
  refine wpAny_ite_false (by decide) (wpAny_pure ?_)
  try wp_delta
  rw [List.forIn_nil]
  refine wpAny_pure ?_
  try wp_delta
  refine wpAny_bind (wpAny_of_eq VE.tyVE ?_)
  try wp_delta
  refine wpAny_bind (wpAny_of_eq VE.isTT ?_)
  try wp_delta
  refine wpAny_ite_true rfl ?_
  refine wpAny_bind ?_
  rw [show (([], false) : List Value × Bool).1 ++ [Value.type "ValueError"] = [Value.type "ValueError"] from rfl, List.forIn_cons]
  refine wpAny_bind (wpAny_bind (wpAny_of_eq VE.tyVE ?_))
  refine wpAny_bind (wpAny_of_eq VE.sub_type_type ?_)
  refine wpAny_ite_true rfl (wpAny_pure ?_)
  try wp_delta
  rw [List.forIn_nil]
  refine wpAny_pure ?_
  try wp_delta
  refine wpAny_bind (wpAny_mkText ?_)
  try wp_delta
  refine wpAny_ite_false rfl ?_
  refine wpAny_bind (wpAny_pure ?_)
  try wp_delta
  refine wpAny_holding ?_
  refine wpAny_bind (prep_attr fun h2 k2 z2 p2 => ?_)
  try wp_delta
  refine wpAny_bind (prep_call p2 fun h3 k3 z3 n3 => ?_)
  have b3 := k3 _ _ (k2 _ _ b1)
  have kk3 : hp.StaysIn h3 := fun b o e => k3 _ _ (k2 _ _ (k1 b o e))
  have hlow : 11 < h2.objs.size := Nat.lt_of_le_of_lt T.lowc.2 (Nat.lt_of_lt_of_le T.ltPl (by rw [z2, z1]; exact Nat.le_succ_of_le (Nat.le_succ _)))
  try wp_delta
  refine wpAny_bind ?_
  unfold notTheModulesDict
  refine wpAny_ite_false (by rw [beq_false_of_ne (Nat.ne_of_gt (Nat.lt_trans (show sysModules < 11 by decide) hlow))]; rfl) (wpAny_pure ?_)
  refine wpAny_bind (wpAny_specialOf (T := "dict") ⟨_, n3, rfl⟩ VE.getitem_dict ?_)
  try wp_delta
  refine wpAny_ite_false rfl ?_
  try wp_delta
  refine wpAny_holding ?_
  try wp_delta
  refine wpAny_ite_false (by rw [hsc]; rfl) ?_
  refine wpAny_bind (wpAny_pure ?_)
  try wp_delta
  refine wpAny_ite_false (by rw [hsc]; rfl) ?_
  refine wpAny_bind (wpAny_pure ?_)
  try wp_delta
  have T3 : TP P ⟨h3, g, d, t + 1 + 1, os⟩ l c Pl ps := T.up (s' := ⟨h3, g, d, t + 1 + 1, os⟩) kk3
  refine wpAny_bind (clsCode (s := ⟨h3, g, d, t + 1 + 1, os⟩) rfl T3.main.code (by simpa using hnf) fun c' h4 tk4 x4 hc' code4 => ?_)
  have T4 : TP P ⟨h4, g, d, tk4, os⟩ l c Pl (ps ++ [rawInt pos.line, rawInt pos.col, .ref c']) := T3.code (tk := tk4) x4 code4
  obtain ⟨bm, o, a1, a2, a3, a4, a5, a6, a7, a8⟩ := T4.main.bmod
  refine wpAny_bind (wpAny_builtinsFor (s := ⟨h4, g, d, tk4, os⟩) T4.main.g a1 a2 a5 a6 a7 a8 ?_)
  refine wpAny_bind ?_
  unfold newBodyFrame
  refine wpAny_bind (wpAny_nsGet T4.main.g ?_)
  refine allocC rfl fun h5 k5 z5 f5 => ?_
  rw [closureFor_none (by rw [hsc]; exact fun x hx => absurd hx (by simp))]
  refine wpAny_bind (wpAny_pure ?_)
  try wp_delta
  have hnPl : h2.objs.size ≠ Pl := Nat.ne_of_gt (Nat.lt_of_lt_of_le T.ltPl (by rw [z2, z1]; exact Nat.le_succ_of_le (Nat.le_succ _)))
  have n5 := k5 _ _ (x4 _ _ hnPl n3)
  have T5 : TP P ⟨h5, g, d, tk4, os⟩ l c Pl (ps ++ [rawInt pos.line, rawInt pos.col, .ref c']) := T4.up (s' := ⟨h5, g, d, tk4, os⟩) k5
  refine wpAny_holding ?_
  refine wpAny_bind (wpAny_enterFrame (s := ⟨h5, g, d, tk4, os⟩) T5.lim hroom ?_)
  refine wpAny_bind (wpAny_onRaise ?_)
  refine wpAny_bind (loadCls hk hsc (by decide) n5 (by kernel_rfl) T5.main.g hname ?_)
  refine wpAny_bind (storeCls hk hsc (by decide) n5 (by kernel_rfl) (by intro x key; kernel_rfl) fun x1 h6 b6 n6 => ?_)
  refine wpAny_bind (wpAny_mkText ?_)
  refine wpAny_bind (storeCls hk hsc (by decide) n6 (by kernel_rfl) (by intro x key; kernel_rfl) fun x2 h7 b7 n7 => ?_)
  refine wpAny_bind (wpAny_mkInt' ?_)
  refine wpAny_bind (storeCls hk hsc (by decide) n7 (by kernel_rfl) (by intro x key; kernel_rfl) fun x3 h8 b8 n8 => ?_)
  try wp_delta
  refine wpAny_pure ?_
  try wp_delta
  refine wpAny_bind (wpAny_run (codeAny_body rfl rfl (wpAny_execs_cons (wpAny_Pass ?_))))
  refine wpAny_execs_nil ?_
  refine wpAny_bind (wpAny_onRaise ?_)
  refine wpAny_bind (wpAny_of_eq (a := ([] : List Value)) (by first | rfl | kernel_rfl | simp) ?_)
  refine wpAny_bind ?_
  unfold newTextTuple newObjAsIs
  refine wpAny_bind (allocC rfl fun h9 k9 z9 u9 => ?_)
  refine wpAny_pure ?_
  have n9 := k9 _ _ n8
  refine wpAny_bind (storeCls hk hsc (by decide) n9 (by kernel_rfl) (by intro x key; kernel_rfl) fun x4' h10 b10 n10 => ?_)
  try wp_delta
  refine wpAny_pure ?_
  try wp_delta
  refine wpAny_ite_false rfl ?_
  try wp_delta
  have hne : ∀ b, b < h2.objs.size → b ≠ h2.objs.size := fun b hb => Nat.ne_of_lt hb
  have hz2 : hp.objs.size < h2.objs.size := by rw [z2, z1]; exact Nat.lt_succ_of_lt (Nat.lt_succ_self _)
  have up : ∀ b o, b ≠ h2.objs.size → h5.get? b = some o → h10.get? b = some o := fun b o hb e => (b10.2 b hb).trans (k9 b o ((b8.2 b hb).trans ((b7.2 b hb).trans ((b6.2 b hb).trans e))))
  have T10 : TP P ⟨h10, g, d, tk4 + 1 + 1 + 1 + 1 + 1 + 1, os⟩ l c Pl (ps ++ [rawInt pos.line, rawInt pos.col, .ref c']) := TP.off (s' := ⟨h10, g, d, tk4 + 1 + 1 + 1 + 1 + 1 + 1, os⟩) T T5 fun b o hb e => up b o (Nat.ne_of_lt (Nat.lt_trans hb hz2)) e
  have hbPl : hp.objs.size ≠ Pl := Nat.ne_of_gt T.ltPl
  have b10' : h10.get? hp.objs.size = some { cls := .type "tuple", data := .seq #[.type "ValueError"] } := up _ _ (Nat.ne_of_lt hz2) (k5 _ _ (x4 _ _ hbPl b3))
  have u10 : h10.get? h8.objs.size = some { cls := .type "tuple", data := .seq #[] } := (b10.2 _ (Nat.ne_of_gt (Heap.lt_size n8))).trans u9
  obtain ⟨ms, hst, hms⟩ := T10.stat
  have hth : ms "thirdparty.any" = none := by
    cases q : ms "thirdparty.any" with
    | none => rfl
    | some v => exact absurd (hms _ _ q) (by unfold okKey; decide)
  refine wpAny_bind (call_type3 b10' n10 (Nat.ne_of_gt (Nat.lt_trans (show sysModules < 11 by decide) hlow)) u10 rfl hst hth fun h' t' C o kC hC ho => ?_)
  try wp_delta
  refine wpAny_pure (h h' t' C c' (T10.up (s' := ⟨h', g, d, t', os⟩) kC) fun b o hb e => kC b o (up b o (Nat.ne_of_lt (Nat.lt_trans (Heap.lt_size e) hz2)) (k5 b o (x4 b o (Nat.ne_of_gt hb) (kk3 b o e)))))
end
end Mine
end

-- part H17
section
open PySem PySem.W PySem.Calls PyProof.Rows
set_option Elab.async false
set_option maxRecDepth 100000
namespace Mine
section
variable {P : Params} {l : List (Str × Value)} {c Pl F : Addr} {ps : List Value} {w : World} {A : Around} {E : Value → Shared → Prop} {s : Shared}

theorem clsStmt {scope : Scope} {tsc : Option Scope} {pos pp pn : Pos} {mod : Str} {tm : Tok} {Q : Flow → Shared → Prop} (hsc : scope.names = []) (hk : scope.kind = .class) (hroom : A.depth < recursionLimit) (T : TP P s l c Pl ps)
    (hname : GM' P l "__name__" = some (.str mod tm)) (hVE : GM' P l "ValueError" = none) (hnf : codeAmong pos ps = none)
    (h : ∀ s' a c', Same s s' → TP P s' (("TOMLDecodeError", .ref a) :: l) c Pl (ps ++ [rawInt pos.line, rawInt pos.col, .ref c']) → Kp Pl s s' → Q .next s') :
    wpAny (model pw w) A (exec (.ClassDef "TOMLDecodeError" [.Name "ValueError" pn] [] [.Pass pp] [] [] scope tsc "TOMLDecodeError" [] pos) (mainEnv pw c F)) Q E s := by
  obtain ⟨hp, g, d, t, os⟩ := s
  rw [arm_exec_ClassDef]
  refine wpAny_bind (wpAny_of_eq (a := ([] : List Value)) (by rfl) (wpAny_bind (wpAny_standAt (wpAny_bind ?_))))
  unfold buildClassGuard
  refine wpAny_bind (wpAny_nsGet T.blt ?_)
  rw [show (boot_heap P).nsMap builtinsNs (Str.ofString "__build_class__") = some (.builtin "__build_class__") from (blt_boot P "__build_class__" (by decide)).trans (by kernel_rfl)]
  refine wpAny_pure ?_
  refine wpAny_bind (wpAny_holding (wpAny_bind ?_))
  refine evalArgs_plain (x := eval (.Name "ValueError" pn) (mainEnv pw c F)) (rest := []) ?_
  refine spliced_cons (ldMB T hVE Boot.«ValueError» (spliced_nil ?_))
  refine wpAny_bind (wpAny_standAt (wpAny_holding ?_))
  refine bldCls hsc hk hroom T hname hnf fun h' t' a c' T' kp => ?_
  refine wpAny_bind (wpAny_of_eq (a := .ref a) (by rfl) (wpAny_bind (wpAny_standAt (wpAny_bind ?_))))
  unfold bindName
  refine wpAny_bind (wpAny_holding (wpAny_point (wpAny_bind (stM T' fun s₂ S₂ b₂ T₂ => wpAny_point (wpAny_pure ?_)))))
  exact h s₂ a c' (Same.trans ⟨rfl, rfl⟩ S₂) T₂ (Kp.trans kp (Kp.same T' b₂))
end
end Mine
end

-- part H18
section
open PySem PySem.W PySem.Calls PyProof.Rows
set_option Elab.async false
set_option maxRecDepth 100000
namespace Mine

/-- the def number i of the top, made by the top -/
def DfT (Pl : Addr) (s : Shared) (name : Str) (i : Nat) (a : Addr) : Prop :=
  Pl < a ∧ ∃ pm c', Pl < c' ∧ s.heap.get? a = some { cls := .type "function", data := .func (plainDef name (fnPar (stAt i)) (fnBody (stAt i)) (fnScope (stAt i)) pm (.ref c')) } ∧ s.heap.CodeRec (.ref c') name
theorem DfT.kp {Pl : Addr} {s s' : Shared} {name : Str} {i : Nat} {a : Addr} (x : DfT Pl s name i a) (k : Kp Pl s s') : DfT Pl s' name i a :=
  let ⟨h1, pm, c', h2, h3, h4⟩ := x; ⟨h1, pm, c', h2, k _ _ h1 h3, h4.at fun o e => k _ _ h2 e⟩
theorem Kp.refl (Pl : Addr) (s : Shared) : Kp Pl s s := fun _ _ _ e => e

section
variable {P : Params} {l : List (Str × Value)} {c Pl F : Addr} {ps : List Value} {w : World} {A : Around} {E : Value → Shared → Prop} {s : Shared}

theorem GM_none {x : Str} (hl : l.lookup x = none) (hs : x ∉ startupNames) : GM' P l x = none := by
  unfold GM'
  rw [hl]
  exact mg0_none P x hs
theorem GM_some {x : Str} {v : Value} (hl : l.lookup x = some v) : GM' P l x = some v := by
  unfold GM'
  rw [hl]

theorem defT {i : Nat} {name : Str} {params : Arguments} {body : List Stmt} {scope : Scope} {pos : Pos} {Q : Flow → Shared → Prop} (T : TP P s l c Pl ps)
    (h : ∀ s' a c', Same s s' → TP P s' ((name, .ref a) :: l) c Pl (ps ++ [rawInt pos.line, rawInt pos.col, .ref c']) → DfT Pl s' name i a → Kp Pl s s' → Q .next s')
    (hst : stAt i = .FunctionDef name params body [] none [] scope none name pos := by rfl)
    (hexec : PlainDefTree name params body scope pos := by intro _; rfl)
    (hfree : ∀ x ∈ scope.names, x.2 ≠ .free := by decide) (hdoc : docOf body = none := by rfl) (hloc : pw.main.scope.names.lookup name = some .local := by rfl)
    (hq : qualnameIn { scope := pw.main.scope, locals := mainGlobals, globals := mainGlobals, cells := [] } name name = name := by rfl)
    (hnb : name ≠ "__builtins__" := by decide) (hnf : codeAmong pos ps = none := by rfl) :
    wpAny (model pw w) A (exec (stAt i) (mainEnv pw c F)) Q E s := by
  have e1 : fnPar (stAt i) = params := by rw [hst]; rfl
  have e2 : fnBody (stAt i) = body := by rw [hst]; rfl
  have e3 : fnScope (stAt i) = scope := by rw [hst]; rfl
  rw [hst]
  refine defM T (fun s' a c' S T' ⟨pm, ha⟩ hcd keep hz hz' => ?_) hexec hfree hdoc hloc hq hnb hnf
  refine h s' a c' S T' ⟨Nat.lt_of_lt_of_le T.ltPl hz, pm, c', Nat.lt_of_lt_of_le T.ltPl hz', ?_, hcd⟩ fun b o hb e => keep b o (Nat.ne_of_gt hb) (Nat.ne_of_gt (Nat.lt_trans T.g_lt hb)) e
  rw [e1, e2, e3]
  exact ha

theorem asgStr {x : Str} {y : Str} {p1 p2 p3 : Pos} {k : Nat} {Q : Flow → Shared → Prop} (T : TP P s l c Pl ps) (h : ∀ s' t, Same s s' → TP P s' ((x, .str y t) :: l) c Pl ps → Kp Pl s s' → Q .next s')
    (hl : pw.main.scope.names.lookup x = some .local := by rfl) (hx : x ≠ "__builtins__" := by decide) :
    wpAny (model pw w) A (exec (.Assign [.Name x p1] (.Constant (.str y) k p2) p3) (mainEnv pw c F)) Q E s := by
  refine wpAny_Assign_Name <| Constant_str <| stM (T.up (s' := { s with toks := s.toks + 1 }) fun _ _ e => e) (fun s₂ S₂ b₂ T₂ => ?_) hl hx
  exact h s₂ _ S₂ T₂ (Kp.same (s := { s with toks := s.toks + 1 }) (T.up fun _ _ e => e) b₂)
theorem asgInt {x : Str} {i : Int} {p1 p2 p3 : Pos} {k : Nat} {Q : Flow → Shared → Prop} (T : TP P s l c Pl ps) (h : ∀ s' t, Same s s' → TP P s' ((x, .int i t) :: l) c Pl ps → Kp Pl s s' → Q .next s')
    (hl : pw.main.scope.names.lookup x = some .local := by rfl) (hx : x ≠ "__builtins__" := by decide) :
    wpAny (model pw w) A (exec (.Assign [.Name x p1] (.Constant (.int i) k p2) p3) (mainEnv pw c F)) Q E s := by
  refine wpAny_Assign_Name <| wpAny_Constant_int <| stM (T.up (s' := { s with toks := s.toks + 1 }) fun _ _ e => e) (fun s₂ S₂ b₂ T₂ => ?_) hl hx
  exact h s₂ _ S₂ T₂ (Kp.same (s := { s with toks := s.toks + 1 }) (T.up fun _ _ e => e) b₂)
theorem asgName {x y : Str} {v : Value} {p1 p2 p3 : Pos} {Q : Flow → Shared → Prop} (T : TP P s l c Pl ps) (hv : GM' P l y = some v) (h : ∀ s', Same s s' → TP P s' ((x, v) :: l) c Pl ps → Kp Pl s s' → Q .next s')
    (hl : pw.main.scope.names.lookup x = some .local := by rfl) (hx : x ≠ "__builtins__" := by decide) (hd : (y == ("__debug__" : Str)) = false := by decide) :
    wpAny (model pw w) A (exec (.Assign [.Name x p1] (.Name y p2) p3) (mainEnv pw c F)) Q E s := by
  refine wpAny_Assign_Name <| ldMG T hv (stM T (fun s₂ S₂ b₂ T₂ => ?_) hl hx) hd
  exact h s₂ S₂ T₂ (Kp.same T b₂)
end
end Mine
end

-- part H19
section
open PySem PySem.W PySem.Calls PyProof.Rows
set_option Elab.async false
set_option maxRecDepth 100000
namespace Mine
section
variable {P : Params} {c Pl F : Addr} {w : World} {A : Around} {E : Value → Shared → Prop} {s : Shared}

theorem mem_of_lookup {l : List (Str × Value)} {x : Str} {v : Value} (h : l.lookup x = some v) : x ∈ l.map (·.1) := by
  induction l with
  | nil => cases h
  | cons p r ih =>
    obtain ⟨y, u⟩ := p
    rw [List.lookup_cons] at h
    by_cases q : x = y
    · subst q; exact .head _
    · rw [beq_false_of_ne q] at h
      exact .tail _ (ih h)
def topNames : List Str := ["law", "_law_asked", "_law_first", "_law_due", "_law_stripped", "_law_cut", "_law_field", "__name__", "suffixed_err", "parse_literal_str", "skip_comments_and_array_ws", "skip_comment", "skip_until", "skip_chars", "TOMLDecodeError", "TOML_WS_AND_NEWLINE", "TOML_WS", "ILLEGAL_COMMENT_CHARS", "ILLEGAL_LITERAL_STR_CHARS", "ILLEGAL_BASIC_STR_CHARS", "ASCII_CTRL", "__name__", "_strip_padding", "_grouping_intervals", "CHAR_MAX", "__name__"]
theorem topNames_ok : ∀ x ∈ topNames, x ∈ pw.boundNames ∧ x ∉ laidNames := by decide +kernel
theorem ctrl_bad : ∀ k ∈ ctrl, k ≠ ⟨#[9]⟩ → ∃ c, k = ⟨#[c]⟩ ∧ badC c := by
  intro k hk h9
  unfold ctrl chrs32 at hk
  rcases List.mem_append.mp hk with q | q
  · obtain ⟨i, hi, rfl⟩ := List.mem_map.mp q
    have hi := List.mem_range.mp hi
    exact ⟨i, rfl, .inl ⟨hi, fun e => h9 (by rw [e])⟩⟩
  · rw [List.mem_singleton.mp q]
    exact ⟨127, rfl, .inr rfl⟩

theorem FnIn.of {Pl : Addr} {mg : Str → Option Value} {name : Str} {i : Nat} {a : Addr} (x : DfT Pl s name i a) (hg : mg name = some (.ref a)) : FnIn mg s.heap name i a :=
  let ⟨_, pm, c', _, h3, h4⟩ := x; ⟨hg, _, pm, .ref c', _, h3, rfl, h4⟩

set_option maxHeartbeats 4000000 in
theorem chain {Q : Flow → Shared → Prop} (hh : A.handled = none) (hroom : A.depth < recursionLimit) (T : TP P s [] c Pl [])
    (h : ∀ s' l ps ad, TP P s' l c Pl ps → Gl (GM' P l) ((boot_heap P).nsMap builtinsNs) ad s'.heap → FnIn (GM' P l) s'.heap "law" 25 ad.lw → Gs w (GM' P l) s'.heap → s'.gens = s.gens.push .finished → s'.os = s.os → (∀ x v, l.lookup x = some v → x ∈ pw.boundNames ∧ x ∉ laidNames) → Q .next s') :
    wpAny (model pw w) A (execs (pw.main.body.drop 0) (mainEnv pw c F)) Q E s := by
  rw [show pw.main.body.drop 0 = stAt 0 :: pw.main.body.drop 1 from rfl]
  refine wpAny_execs_cons (asgStr T fun s0 t0 S0 T0 K0 => ?_)
  rw [show pw.main.body.drop 1 = stAt 1 :: pw.main.body.drop 2 from rfl]
  refine wpAny_execs_cons (asgInt T0 fun s1 t1 S1 T1 K1 => ?_)
  rw [show pw.main.body.drop 2 = stAt 2 :: pw.main.body.drop 3 from rfl]
  refine wpAny_execs_cons (defT (i := 2) T1 fun s2 a2 c2 S2 T2 D2 K2 => ?_)
  rw [show pw.main.body.drop 3 = stAt 3 :: pw.main.body.drop 4 from rfl]
  refine wpAny_execs_cons (defT (i := 3) T2 fun s3 a3 c3 S3 T3 D3 K3 => ?_)
  rw [show pw.main.body.drop 4 = stAt 4 :: pw.main.body.drop 5 from rfl]
  refine wpAny_execs_cons (asgStr T3 fun s4 t4 S4 T4 K4 => ?_)
  rw [show pw.main.body.drop 5 = stAt 5 :: pw.main.body.drop 6 from rfl]
  refine wpAny_execs_cons (set5 hh hroom T4 (GM_none rfl (by decide)) (GM_none rfl (by decide)) (GM_none rfl (by decide)) rfl fun s5 a5 c5 os5 g5 T5 F5 K5 => ?_)
  rw [show pw.main.body.drop 6 = stAt 6 :: pw.main.body.drop 7 from rfl]
  refine wpAny_execs_cons (set6 hh T5 (GM_none rfl (by decide)) (GM_some rfl) F5 (by decide) (by decide) (by decide) fun s6 a6 ks6 S6 T6 F6 M6 K6 => ?_)
  rw [show pw.main.body.drop 7 = stAt 7 :: pw.main.body.drop 8 from rfl]
  refine wpAny_execs_cons (asgName T6 (GM_some rfl) fun s7 S7 T7 K7 => ?_)
  rw [show pw.main.body.drop 8 = stAt 8 :: pw.main.body.drop 9 from rfl]
  refine wpAny_execs_cons (asgName T7 (GM_some rfl) fun s8 S8 T8 K8 => ?_)
  rw [show pw.main.body.drop 9 = stAt 9 :: pw.main.body.drop 10 from rfl]
  refine wpAny_execs_cons (setStr hh T8 (GM_none rfl (by decide)) (by decide) fun s9 a9 S9 T9 F9 K9 => ?_)
  rw [wsKeys] at F9
  rw [show pw.main.body.drop 10 = stAt 10 :: pw.main.body.drop 11 from rfl]
  refine wpAny_execs_cons (set10 hh T9 (GM_none rfl (by decide)) (GM_some rfl) F9 fun s10 a10 S10 T10 F10 K10 => ?_)
  rw [show pw.main.body.drop 11 = stAt 11 :: pw.main.body.drop 12 from rfl]
  refine wpAny_execs_cons (clsStmt rfl rfl hroom T10 (GM_some rfl) (GM_none rfl (by decide)) rfl fun s11 a11 c11 S11 T11 K11 => ?_)
  rw [show pw.main.body.drop 12 = stAt 12 :: pw.main.body.drop 13 from rfl]
  refine wpAny_execs_cons (defT (i := 12) T11 fun s12 a12 c12 S12 T12 D12 K12 => ?_)
  rw [show pw.main.body.drop 13 = stAt 13 :: pw.main.body.drop 14 from rfl]
  refine wpAny_execs_cons (defT (i := 13) T12 fun s13 a13 c13 S13 T13 D13 K13 => ?_)
  rw [show pw.main.body.drop 14 = stAt 14 :: pw.main.body.drop 15 from rfl]
  refine wpAny_execs_cons (defT (i := 14) T13 fun s14 a14 c14 S14 T14 D14 K14 => ?_)
  rw [show pw.main.body.drop 15 = stAt 15 :: pw.main.body.drop 16 from rfl]
  refine wpAny_execs_cons (defT (i := 15) T14 fun s15 a15 c15 S15 T15 D15 K15 => ?_)
  rw [show pw.main.body.drop 16 = stAt 16 :: pw.main.body.drop 17 from rfl]
  refine wpAny_execs_cons (defT (i := 16) T15 fun s16 a16 c16 S16 T16 D16 K16 => ?_)
  rw [show pw.main.body.drop 17 = stAt 17 :: pw.main.body.drop 18 from rfl]
  refine wpAny_execs_cons (defT (i := 17) T16 fun s17 a17 c17 S17 T17 D17 K17 => ?_)
  rw [show pw.main.body.drop 18 = stAt 18 :: pw.main.body.drop 19 from rfl]
  refine wpAny_execs_cons (asgStr T17 fun s18 t18 S18 T18 K18 => ?_)
  rw [show pw.main.body.drop 19 = stAt 19 :: pw.main.body.drop 20 from rfl]
  refine wpAny_execs_cons (defT (i := 19) T18 fun s19 a19 c19 S19 T19 D19 K19 => ?_)
  rw [show pw.main.body.drop 20 = stAt 20 :: pw.main.body.drop 21 from rfl]
  refine wpAny_execs_cons (defT (i := 20) T19 fun s20 a20 c20 S20 T20 D20 K20 => ?_)
  rw [show pw.main.body.drop 21 = stAt 21 :: pw.main.body.drop 22 from rfl]
  refine wpAny_execs_cons (defT (i := 21) T20 fun s21 a21 c21 S21 T21 D21 K21 => ?_)
  rw [show pw.main.body.drop 22 = stAt 22 :: pw.main.body.drop 23 from rfl]
  refine wpAny_execs_cons (defT (i := 22) T21 fun s22 a22 c22 S22 T22 D22 K22 => ?_)
  rw [show pw.main.body.drop 23 = stAt 23 :: pw.main.body.drop 24 from rfl]
  refine wpAny_execs_cons (defT (i := 23) T22 fun s23 a23 c23 S23 T23 D23 K23 => ?_)
  rw [show pw.main.body.drop 24 = stAt 24 :: pw.main.body.drop 25 from rfl]
  refine wpAny_execs_cons (defT (i := 24) T23 fun s24 a24 c24 S24 T24 D24 K24 => ?_)
  rw [show pw.main.body.drop 25 = stAt 25 :: pw.main.body.drop 26 from rfl]
  refine wpAny_execs_cons (defT (i := 25) T24 fun s25 a25 c25 S25 T25 D25 K25 => ?_)
  rw [show pw.main.body.drop 26 = [] from rfl]
  refine wpAny_execs_nil ?_
  have L25 := Kp.refl Pl s25
  have L24 := Kp.trans K25 L25
  have L23 := Kp.trans K24 L24
  have L22 := Kp.trans K23 L23
  have L21 := Kp.trans K22 L22
  have L20 := Kp.trans K21 L21
  have L19 := Kp.trans K20 L20
  have L18 := Kp.trans K19 L19
  have L17 := Kp.trans K18 L18
  have L16 := Kp.trans K17 L17
  have L15 := Kp.trans K16 L16
  have L14 := Kp.trans K15 L15
  have L13 := Kp.trans K14 L14
  have L12 := Kp.trans K13 L13
  have L11 := Kp.trans K12 L12
  have L10 := Kp.trans K11 L11
  have L9 := Kp.trans K10 L10
  have L8 := Kp.trans K9 L9
  have L7 := Kp.trans K8 L8
  have L6 := Kp.trans K7 L7
  have L5 := Kp.trans K6 L6
  have L4 := Kp.trans K5 L5
  have L3 := Kp.trans K4 L4
  have L2 := Kp.trans K3 L3
  refine h s25 _ _ ⟨a2, a3, a12, a13, a14, a15, a16, a19, a20, a21, a22, a23, a24, a25⟩ T25 ⟨T25.main.g, T25.blt, T25.lim, blt_boot P, ?_, FnIn.of (D3.kp L3) (GM_some rfl), FnIn.of (D2.kp L2) (GM_some rfl), FnIn.of (D12.kp L12) (GM_some rfl), FnIn.of (D13.kp L13) (GM_some rfl), FnIn.of (D14.kp L14) (GM_some rfl), FnIn.of (D15.kp L15) (GM_some rfl), FnIn.of (D16.kp L16) (GM_some rfl), FnIn.of (D19.kp L19) (GM_some rfl), FnIn.of (D20.kp L20) (GM_some rfl), FnIn.of (D21.kp L21) (GM_some rfl), FnIn.of (D22.kp L22) (GM_some rfl), FnIn.of (D23.kp L23) (GM_some rfl), FnIn.of (D24.kp L24) (GM_some rfl)⟩ (FnIn.of (D25.kp L25) (GM_some rfl)) ⟨⟨a10, GM_some rfl, memP_fz (F10.kp L10).2⟩, ⟨a6, ks6, GM_some rfl, GM_some rfl, (F6.kp L6).2, ?_⟩, t1, GM_some rfl⟩ ?_ ?_ ?_
  · intro x hx
    simp only [freeNames, List.mem_cons, List.not_mem_nil, or_false] at hx
    rcases hx with rfl | rfl | rfl | rfl | rfl | rfl | rfl | rfl <;> exact GM_none rfl (by decide)
  · intro k hk
    obtain ⟨h1, h2⟩ := (M6 k).mp hk
    exact ctrl_bad k h1 h2
  · have e1 : s25.gens = s5.gens := (((((((((((((((((((S25.1).trans S24.1).trans S23.1).trans S22.1).trans S21.1).trans S20.1).trans S19.1).trans S18.1).trans S17.1).trans S16.1).trans S15.1).trans S14.1).trans S13.1).trans S12.1).trans S11.1).trans S10.1).trans S9.1).trans S8.1).trans S7.1).trans S6.1
    have e2 : s4.gens = s.gens := ((((S4.1).trans S3.1).trans S2.1).trans S1.1).trans S0.1
    rw [e1, g5, e2]
  · have e1 : s25.os = s5.os := (((((((((((((((((((S25.2).trans S24.2).trans S23.2).trans S22.2).trans S21.2).trans S20.2).trans S19.2).trans S18.2).trans S17.2).trans S16.2).trans S15.2).trans S14.2).trans S13.2).trans S12.2).trans S11.2).trans S10.2).trans S9.2).trans S8.2).trans S7.2).trans S6.2
    have e2 : s4.os = s.os := ((((S4.2).trans S3.2).trans S2.2).trans S1.2).trans S0.2
    rw [e1, os5, e2]
  · intro x v hx
    exact topNames_ok x (mem_of_lookup hx)
end
end Mine
end

-- part H20
section
open PySem PySem.W PySem.Calls PyProof.Rows
set_option Elab.async false
set_option maxRecDepth 100000
namespace Mine
theorem boot_st (P : Params) : (boot_heap P).nsKeys cStatics = [] := by kernel_rfl
theorem boot_stNs (P : Params) : (boot_heap P).isNs cStatics = true := by kernel_rfl
theorem boot_gNs (P : Params) : (boot_heap P).isNs mainGlobals = true := by kernel_rfl
theorem boot_bm (P : Params) : (boot_heap P).bmainOk = true := by kernel_rfl
theorem boot_keys (P : Params) : (boot_heap P).nsKeys mainGlobals = startupNames := by kernel_rfl

theorem tp0 {P : Params} {h : Heap} {c Pl : Addr} {g : Array GenState} {d : Drawn} {t : Nat} {os : OsState} (k : (boot_heap P).StaysIn h) (hc : 11 ≤ c) (hP : 11 ≤ Pl) (code : h.IsCode c Pl #[]) : TP P ⟨h, g, d, t, os⟩ [] c Pl [] := by
  have hg : (boot_heap P).Ns mainGlobals (mg0 P) := .of_isNs (boot_gNs P)
  refine ⟨⟨hg.keeps k, code, ⟨Nat.lt_of_lt_of_le (show mainGlobals < 11 by decide) hc, Nat.lt_of_lt_of_le (show mainGlobals < 11 by decide) hP⟩, ?_⟩, fun b o _ _ e => k b o e, ⟨hc, hP⟩, ?_⟩
  · obtain ⟨bm, ob, b1, b2, b3, b4, b5, b6⟩ := Heap.bmainOk_spec (boot_bm P)
    refine ⟨bm, ob, b1, b2, fun e => ?_, Nat.ne_of_lt (Nat.lt_of_lt_of_le (Heap.lt_size b3) hP), k _ _ b3, b4, b5, b6⟩
    obtain ⟨o, es, ep, ho, hd, _⟩ := hg
    rw [e, ho] at b3
    cases b3
    rw [hd] at b6
    cases b6
  · refine ⟨(boot_heap P).nsMap cStatics, (Heap.Ns.of_isNs (boot_stNs P)).keeps k, fun x v e => ?_⟩
    rw [Heap.nsMap_none (by rw [boot_st]; exact List.not_mem_nil)] at e
    cases e

/-- what the top has left -/
def TopLeft (w : World) (s₀ s' : Shared) : Prop :=
  ∃ l c Pl ps ad, TP w.params s' l c Pl ps ∧ Gl (GM' w.params l) ((boot_heap w.params).nsMap builtinsNs) ad s'.heap ∧ FnIn (GM' w.params l) s'.heap "law" 25 ad.lw ∧ Gs w (GM' w.params l) s'.heap ∧ s'.gens = #[.finished] ∧ s'.os = s₀.os ∧ ∀ x v, l.lookup x = some v → x ∈ pw.boundNames ∧ x ∉ laidNames

theorem topWalk {w : World} {s₀ : Shared} (hh : s₀.heap = boot_heap w.params) (hg : s₀.gens = #[]) :
    wpAny (model pw w) callerA (topStub pw).cur (fun fin s' => ∃ f, fin = .done f ∧ (TopLeft w s₀ s' ∧ leftWithCleanup s'.gens = false)) (fun _ _ => False) s₀ := by
  obtain ⟨h0, g, d, t, os⟩ := s₀
  dsimp only at hh hg
  subst hh hg
  show wpAny _ _ (do let code ← moduleCode pw.main
                     let frame ← newBodyFrame code mainNs mainNs
                     let _ ← run (.body (pw.main.body.drop 0) { scope := pw.main.scope, locals := mainNs, globals := mainNs, cells := [], code, frame := some frame })
                     ret .none) _ _ _
  refine wpAny_bind (wpAny_moduleCode fun c Pl h1 tk1 k1 hc hP code1 => ?_)
  refine wpAny_bind ?_
  unfold newBodyFrame
  have hg1 : h1.Ns mainGlobals (mg0 w.params) := (Heap.Ns.of_isNs (boot_gNs w.params)).keeps k1
  refine wpAny_bind (wpAny_nsGet (s := ⟨h1, #[], d, tk1, os⟩) hg1 ?_)
  refine allocC rfl fun h2 k2 z2 f2 => ?_
  have T : TP w.params ⟨h2, #[], d, tk1, os⟩ [] c Pl [] := tp0 (fun b o e => k2 _ _ (k1 b o e)) hc hP (code1.keeps k2)
  refine wpAny_bind (wpAny_run (codeAny_body rfl rfl (chain (c := c) (F := h1.objs.size) rfl (show 1 + claimMargin + 1 < recursionLimit by decide) T fun s' l ps ad T' G' H' S' g' o' n' => ?_)))
  refine wpAny_pure ⟨_, rfl, ⟨l, c, Pl, ps, ad, T', G', H', S', g', o', n'⟩, ?_⟩
  refine leftWithCleanup_false_of_bare fun x hx => ?_
  rw [g'] at hx
  rcases Array.mem_push.mp hx with q | rfl
  · simp at q
  · rfl
end Mine
end

-- part H21
section
open PySem PySem.W PySem.Calls PyProof.Rows
set_option Elab.async false
set_option maxRecDepth 100000
namespace Mine

theorem TopLeft.congr {w : World} {s₀ s s' : Shared} (h1 : s'.heap = s.heap) (h2 : s'.gens = s.gens) (h3 : s'.os = s.os) (x : TopLeft w s₀ s) : TopLeft w s₀ s' := by
  obtain ⟨l, c, Pl, ps, ad, T, G, H, S, g, o, n⟩ := x
  refine ⟨l, c, Pl, ps, ad, ⟨h1 ▸ T.main, fun b o => h1 ▸ T.old b o, T.lowc, h1 ▸ T.stat⟩, h1 ▸ G, h1 ▸ H, h1 ▸ S, h2.trans g, h3.trans o, n⟩

theorem topRan {w : World} {s₀ : Shared} (hz : s₀.asleep) (hh : s₀.heap = boot_heap w.params) (hg : s₀.gens = #[]) : ∃ s₁, TopRan pw w s₀ s₁ ∧ TopLeft w s₀ s₁ ∧ s₁.asleep := by
  obtain ⟨n, t₁, s₁, s₂, hrun, hth, hfo, hR, hlife⟩ := top_runs (R := fun s' => TopLeft w s₀ s') hz (topWalk hh hg)
  obtain ⟨eh, _, _, eo, eg⟩ := Shared.forget_eq hfo
  have g2 : s₂.gens = #[.finished] := by obtain ⟨_, _, _, _, _, _, _, _, _, g, _⟩ := hR; exact g
  have g1 : s₁.gens = s₂.gens := by
    rw [g2] at eg ⊢
    refine Array.ext_getElem? fun i => ?_
    have e : (s₁.gens.map GenState.forget)[i]? = ((#[.finished] : Array GenState).map GenState.forget)[i]? := by rw [eg]
    rw [Array.getElem?_map, Array.getElem?_map] at e
    cases h : s₁.gens[i]? with
    | none =>
      rw [h] at e
      cases h' : (#[.finished] : Array GenState)[i]? with
      | none => rfl
      | some y => rw [h'] at e; cases e
    | some x =>
      rw [h] at e
      cases h' : (#[.finished] : Array GenState)[i]? with
      | none => rw [h'] at e; cases e
      | some y =>
        rw [h'] at e
        simp only [Option.map_some, Option.some.injEq] at e
        have hy : y = .finished := by
          have := Array.mem_of_getElem? h'
          simpa using this
        subst hy
        exact congrArg some (GenState.eq_of_forget_eq e rfl)
  have L : TopLeft w s₀ s₁ := TopLeft.congr eh g1 eo hR
  refine ⟨s₁, ?_, L, Shared.asleep_of_life hlife hz⟩
  obtain ⟨l, c, Pl, ps, ad, T, G, H, S, g, o, nm⟩ := L
  obtain ⟨ms, hst, hms⟩ := T.stat
  have hg0 : s₀.heap.Ns mainGlobals (mg0 w.params) := by rw [hh]; exact .of_isNs (boot_gNs _)
  have e1 : ∀ x, globalOf s₁.heap x = GM' w.params l x := fun x => Claim2Try.globalOf_of_ns T.main.g x
  have e0 : ∀ x, globalOf s₀.heap x = mg0 w.params x := fun x => Claim2Try.globalOf_of_ns hg0 x
  have hs1 : ∀ k, staticOf s₁.heap k = ms k := fun k => Pin.staticOf_of_ns hst k
  have hs0 : ∀ k, staticOf s₀.heap k = none := fun k => by
    rw [hh, Pin.staticOf_eq (boot_stNs _), Heap.nsMap_none (by rw [boot_st]; exact List.not_mem_nil)]
  refine ⟨⟨n, t₁, hrun, hth⟩, hlife, Shared.rest_eq o, fun b ob e hn => T.old b ob (fun q => hn (.inl q)) (fun q => hn (.inr (.inl q))) (hh ▸ e), ?_, ?_, Pin.keysAreStrs_of_ns T.main.g, ?_, ?_, ?_, ?_, ?_⟩
  · intro k v hk
    rw [hs1] at hk
    have : okKey k := hms k v hk
    unfold okKey at this
    refine .inr (.inl ?_)
    unfold runKey
    rw [this]
    rfl
  · intro k
    rw [hs1, hs0]
    cases q : ms k with
    | none => exact .inl rfl
    | some v => exact .inr (.inr (.inl (hms k v q)))
  · intro x hx
    rw [Pin.builtinOf_of_ns T.blt]
    exact blt_boot w.params x hx
  · obtain ⟨bm, ob, a1, a2, a3, a4, a5, a6, a7, a8⟩ := T.main.bmod
    exact ⟨bm, ob, (e1 _).trans a1, a5, a6, a7⟩
  · intro x hx
    rw [g] at hx
    have : x = .finished := by simpa using hx
    rw [this]
    trivial
  · intro x v hx
    rw [e1] at hx
    unfold GM' at hx
    cases q : l.lookup x with
    | some u => exact .inr (nm x u q).1
    | none =>
      rw [q] at hx
      refine .inl ?_
      by_cases hm : x ∈ startupNames
      · exact hm
      · rw [mg0_none _ _ hm] at hx
        cases hx
  · intro x hx
    rw [e1, e0]
    unfold GM'
    cases q : l.lookup x with
    | some u => exact absurd hx (nm x u q).2
    | none => rfl
end Mine
end

-- part H22
section
open PySem PySem.W PySem.Calls PyProof.Rows
set_option Elab.async false
set_option maxRecDepth 100000
namespace Mine

abbrev rowL : RowW := PySem.Challenge.rw_ny0099_01.row.toRowW

theorem args_are {args : List WData} (h : rowL.claim.pre args = true) : ∃ ns : List Int, args = [.list (ns.map .int)] ∧ ns.length ≤ 63 := by
  obtain ⟨h1, h2⟩ := pre_splitW h
  obtain ⟨d, r, rfl, hd, hr⟩ := hasAllW_cons (e := .list .int) (es := []) h1
  obtain rfl := hasAllW_nil hr
  obtain ⟨xs, rfl, hx⟩ := hasW_list hd
  obtain ⟨ns, rfl⟩ := items_int hx
  refine ⟨ns, rfl, ?_⟩
  have e : (WTm.holds [] (.and (.not (.lt (.lit (.int 63)) (.len (.arg 0)))) (.lit (.bool true))) { args := [.list (ns.map .int)] }) = true := h2
  simp [WTm.holds, WTm.value] at e
  have hl : less? (WData.int 63) (WData.int (ns.length : Int)) = some (decide ((63 : Int) < (ns.length : Int))) := by first | rfl | simp [less?]
  rw [hl] at e
  by_cases q : (63 : Int) < (ns.length : Int)
  · rw [decide_eq_true q] at e
    simp at e
  · omega

theorem ints_read {R : WRecords} {cl : Str → Option Addr} {h : Heap} : ∀ {ns : List Int} {vs : List Value} {as : List Addr}, ReadsAllW R cl h vs (ns.map .int) as → IntsAre vs ns
  | [], _, _, x => by cases x; exact .nil
  | n :: ns, _, _, x => by
    cases x with
    | cons a b =>
      cases a with
      | int i t => exact .cons _ _ (ints_read b)

theorem list_read {R : WRecords} {cl : Str → Option Addr} {h : Heap} {ns : List Int} {vs : List Value} {as : List Addr} (x : ReadsAllW R cl h vs [.list (ns.map .int)] as) : ∃ sa items, vs = [.ref sa] ∧ h.IsList sa items.toArray ∧ IntsAre items ns := by
  cases x with
  | cons a b =>
    cases b
    cases a with
    | list h1 h2 h3 h4 => exact ⟨_, _, rfl, ⟨_, h1, h2, _, by rw [h3]⟩, ints_read h4⟩

theorem caller_room : Room callerA 6 := ⟨rfl, by decide, by decide⟩

theorem law_call {w : World} {s : Shared} {l : List (Str × Value)} {mb : Str → Option Value} {ad : Ads} {mg : Str → Option Value} {sa : Addr} {items : List Value} {ns : List Int} {Q : Fin → Shared → Prop} (G : Gl mg mb ad s.heap) (H : FnIn mg s.heap "law" 25 ad.lw) (S : Gs w mg s.heap)
    (hl : s.heap.IsList sa items.toArray) (hi : IntsAre items ns) (hn : ns.length ≤ 63)
    (hQ : ∀ s', s.heap.StaysIn s'.heap → s'.os = s.os → (∃ gs, s'.gens = s.gens.push gs ∧ gs.bare = true) → Q (.done (.ret (.bool true))) s') :
    wpAny (model pw w) callerA (callStub "law" [.ref sa]).cur Q (fun _ _ => False) s := by
  show wpAny _ _ (do match ← nsGet mainNs "law" with
                     | some f => do ret (← call f [.ref sa])
                     | none => unsupported "claim.caller:no-such-global") _ _ _
  refine wpAny_bind (wpAny_nsGet G.g ?_)
  rw [H.glob]
  have B : Bl callerA s.heap [] s.heap := ⟨rfl, fun _ _ e => e, trivial, Nat.le_refl _⟩
  refine wpAny_bind (wpAny_call (codeAny_mono (law_spec B G S caller_room H sa items ns hl hi hn) fun r s' hr => ?_))
  obtain ⟨v, rfl, k, _, o, g, rfl⟩ := hr
  exact wpAny_pure (hQ s' k o g)
end Mine
end

-- part H23
section
open PySem PySem.W PySem.Calls PyProof.Rows
set_option Elab.async false
set_option maxRecDepth 100000
namespace Mine

theorem pw_tables : pw.tablesWhole = true := by kernel_rfl
theorem pw_bare : pw.bare := ⟨rfl, rfl, rfl, rfl, rfl, pw_tables⟩
theorem pw_opens : opensWell pw = true := by kernel_rfl
theorem pw_open : opening pw = plainProg pw.main.scope.names := rfl
theorem pw_fence (s : Shared) : fenceModules? pw s = some s := rfl
theorem pw_law : pw.theDef "law" = some (fnPar (stAt 25), fnBody (stAt 25), fnScope (stAt 25)) := by kernel_rfl
theorem law_ident (a b : List Whence) : rowL.claim.ident a b = true := ident_freeW rfl rfl rfl a b
theorem law_post (args ds : List WData) : rowL.claim.post args (.bool true) ds = true := by first | rfl | kernel_rfl | decide

theorem law_pinned {mg : Str → Option Value} {h : Heap} {f : Addr} (hg : h.Ns mainGlobals mg) (H : FnIn mg h "law" 25 f) : isTheDefsW pw h "law" := by
  obtain ⟨o, pm, cd, doc, ho, hd, _⟩ := H.there
  refine ⟨f, o, _, _, _, _, (Claim2Try.globalOf_of_ns hg _).trans H.glob, ho, hd, pw_law, rfl, rfl, rfl, rfl, rfl, rfl, rfl, rfl, .inl ⟨rfl, rfl⟩, [], rfl, .inl ⟨rfl, rfl⟩⟩

theorem law_from {w : World} {s₀ s₁ : Shared} {free : Addr → Prop} {gens : Prop} {kept : Heap → Prop} (hk : ∀ h, kept h) (hz : s₁.asleep) (L : TopLeft w s₀ s₁) : rowL.claim.CallFrom (callStub "law") w free gens kept s₁ := by
  obtain ⟨l, c, Pl, ps, ad, T, G, H, S, g, o, nm⟩ := L
  refine callFrom_of_specK (c := rowL.claim) (tree := fun vs => (callStub "law" vs).cur) hz (fun x hx => by rw [g] at hx; simpa using hx) fun args hpre hlay ord hord => ?_
  obtain ⟨ns, rfl, hn⟩ := args_are hpre
  obtain ⟨⟨vs, s₂⟩, hlaid⟩ := Option.isSome_iff_exists.mp (layAllW_isSome (R := rowL.records) (cl := classAt s₁.heap) (P := w.params) (ord := ord) (fun c hc => (nomatch hc)) [.list (ns.map .int)] rowL.args s₁ (pre_splitW hpre).1)
  have keeps := layAllW_keeps _ _ _ hlaid
  have hal := layAllW_rest _ _ _ hlaid
  obtain ⟨as, hrd, hin, hold⟩ := reads_layAllW hord _ _ _ hlaid hlay s₂.heap (fun _ _ e => e)
  obtain ⟨sa, items, rfl, hl, hi⟩ := list_read hrd
  refine ⟨_, s₂, hlaid, law_call (l := l) (G.keeps keeps) (H.keeps keeps) (S.keeps keeps) hl hi hn fun s' k os' gs' => ⟨_, rfl, ?_, os'.trans hal.2.2.1, ?_, hk _⟩⟩
  · refine .inl ⟨_, rfl, fun _ => rfl, ⟨.bool true, _, [], as, .bool _, hrd.keepsK fun b o e _ => k b o e, law_post _ _, fun _ => ⟨List.nodup_nil, fun a ha => absurd ha List.not_mem_nil, fun a ha => absurd ha List.not_mem_nil⟩, fun _ _ => law_ident _ _⟩, (fun i hi => by cases hi), (fun b o e _ _ => .inl (k b o e)), (fun i hi => by cases hi)⟩
  · obtain ⟨gs, e1, e2⟩ := gs'
    have e0 : s₂.gens = s₁.gens := hal.1
    exact ⟨gs, by rw [e1, e0], e2⟩

theorem holdsOpen (hp : rowL.promised) : rowL.claim.HoldsOpenBy (callStub "law") ["law"] PySem.Challenge.rw_ny0099_01.row.keeps false := by
  refine ⟨⟨pw_bare, pw_opens, rfl⟩, hp.witness, fun w => ?_⟩
  have h := boot_open (p := pw) (N := 600) pw_open rfl pw_fence w
  rw [← table_eq_tree] at h
  obtain ⟨s₀, h2, e⟩ := Option.map_eq_some_iff.mp h
  obtain ⟨s, h4, h5⟩ := Option.bind_eq_some_iff.mp h2
  have A := AfterImport.of_importEnds h4
  refine ⟨⟨s, A⟩, fun s' hs' => ?_⟩
  obtain rfl : s' = s := AfterImport.unique hs' A
  have z : s₀.asleep := Shared.asleep_of_life (fence_lifeW h5) A.life
  have e1 : s₀.heap = boot_heap w.params := congrArg Prod.fst e
  have e2 : s₀.gens = #[] := congrArg (fun x => x.2.1) e
  obtain ⟨s₁, TR, TL, z1⟩ := topRan z e1 e2
  refine ⟨s₀, h5, e2, s₁, TR, fun n hn => ?_, fun x hx => (nomatch hx), fun x hx => (nomatch hx), law_from (fun _ q => nomatch q) z1 TL⟩
  obtain rfl : n = "law" := List.mem_singleton.mp hn
  obtain ⟨l, c, Pl, ps, ad, T, G, H, S, g, o, nm⟩ := TL
  exact law_pinned T.main.g H

theorem joinTop : PySem.Challenge.rw_ny0099_01.Holds := by
  w_on
  o_law
  rename_i said
  have hp : rowL.promised := by w_witness2
  exact ⟨said, hp, holdsOpen hp⟩
end Mine
end

theorem PySem.Challenge.cw_ny0099_01_holds : PySem.Challenge.rw_ny0099_01.Holds :=
  Mine.joinTop
