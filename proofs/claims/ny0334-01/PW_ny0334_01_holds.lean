import PyProof.Rows.All
import Wide.All
import OpenK.AllK
import Wide.FinOn
import Lean
import PySem.Challenge.RW_ny0334_01

local macro_rules | `(tactic| walk_at $s:str) => `(tactic| k_extra $s)
local macro_rules | `(tactic| k_all) => `(tactic| k_extra "k_all")
local macro_rules | `(tactic| k_ne) => `(tactic| k_extra "k_ne")
local macro_rules | `(tactic| k_room) => `(tactic| k_extra "k_room")
local macro_rules | `(tactic| walk1) => `(tactic| k_extra "walk1")

section
open PySem PySem.W PyProof.Rows
set_option maxRecDepth 100000
set_option maxHeartbeats 8000000
set_option Elab.async false
namespace Mine
section
local macro_rules | `(tactic| o_head $_) => `(tactic| assumption)
theorem k0 (h : PySem.Challenge.rw_ny0334_01.row.Holds) : PySem.Challenge.rw_ny0334_01.row.Holds := by
  k_head
end
end Mine
end

section
open PySem PySem.Spec PySem.Calls PySem.W PyProof.Rows
set_option Elab.async false
set_option maxRecDepth 100000
set_option maxHeartbeats 8000000
namespace Mine
theorem hideG {G : Prop} (h : ∀ G' : Prop, (G → G') → G') : G := h G id

noncomputable def fra (envs : List Env) : List Addr := envs.filterMap (·.frame)

structure Chg (fs X : List Addr) (h h' : Heap) : Prop where
  same : ∀ b o, h.get? b = some o → b ∉ fs → b ∉ X → h'.get? b = some o
  slid : ∀ b o, h.get? b = some o → b ∈ fs → b ∉ X → ∃ sl, h'.get? b = some { o with slots := sl }

structure Slid (fs : List Addr) (g g' : Heap) : Prop where
  size : g'.objs.size = g.objs.size
  none : ∀ b, g.get? b = none → g'.get? b = none
  same : ∀ b o, g.get? b = some o → b ∉ fs → g'.get? b = some o
  slid : ∀ b o, g.get? b = some o → b ∈ fs → ∃ sl, g'.get? b = some { o with slots := sl }

theorem Slid.refl (fs : List Addr) (g : Heap) : Slid fs g g := ⟨rfl, fun _ h => h, fun _ _ h _ => h, fun _ o h _ => ⟨o.slots, h⟩⟩
theorem Slid.trans {fs : List Addr} {a b c : Heap} (x : Slid fs a b) (y : Slid fs b c) : Slid fs a c :=
  ⟨y.size.trans x.size, fun q h => y.none q (x.none q h), fun q o h n => y.same q o (x.same q o h n) n, fun q o h n =>
    let ⟨_, h1⟩ := x.slid q o h n
    let ⟨s2, h2⟩ := y.slid q _ h1 n
    ⟨s2, h2⟩⟩

noncomputable def slideTo (g h : Heap) : Heap := ⟨g.objs.mapIdx fun b o => if o.isFreed then o else (h.get? b).getD o, g.life⟩
theorem slideTo_some {g h : Heap} {b : Addr} {o o' : Obj} (e : g.get? b = some o) (e' : h.get? b = some o') : (slideTo g h).get? b = some o' := by
  obtain ⟨e1, e2⟩ := Heap.get?_some_iff.mp e
  refine Heap.get?_some_iff.mpr ⟨?_, (Heap.get?_some_iff.mp e').2⟩
  simp [slideTo, Array.getElem?_mapIdx, e1, e2, e']
theorem slideTo_none {g h : Heap} {b : Addr} (e : g.get? b = none) : (slideTo g h).get? b = none := by
  cases q : (slideTo g h).get? b with
  | none => rfl
  | some o =>
    obtain ⟨q1, q2⟩ := Heap.get?_some_iff.mp q
    simp only [slideTo, Array.getElem?_mapIdx] at q1
    cases r : g.objs[b]? with
    | none => rw [r] at q1; cases q1
    | some x =>
      rw [r] at q1
      by_cases f : x.isFreed = true
      · simp only [Option.map_some, f, if_true, Option.some.injEq] at q1
        subst q1
        rw [q2] at f; cases f
      · have : g.get? b = some x := Heap.get?_some_iff.mpr ⟨r, by simpa using f⟩
        rw [e] at this; cases this

theorem slide {fs : List Addr} {g h : Heap} (s1 : ∀ b o, g.get? b = some o → b ∉ fs → h.get? b = some o) (s2 : ∀ b o, g.get? b = some o → b ∈ fs → ∃ sl, h.get? b = some { o with slots := sl }) :
    ∃ g', Slid fs g g' ∧ g'.StaysIn h := by
  refine ⟨slideTo g h, ⟨by simp [slideTo], fun b e => slideTo_none e, fun b o e n => slideTo_some e (s1 b o e n), fun b o e n => ?_⟩, fun b o e => ?_⟩
  · obtain ⟨sl, q⟩ := s2 b o e n
    exact ⟨sl, slideTo_some e q⟩
  · cases q : g.get? b with
    | none => rw [slideTo_none q] at e; cases e
    | some x =>
      by_cases n : b ∈ fs
      · obtain ⟨sl, r⟩ := s2 b x q n
        rw [slideTo_some q r] at e
        rw [← e]; exact r
      · have r := s1 b x q n
        rw [slideTo_some q r] at e
        rw [← e]; exact r

theorem Ns_up {h h' : Heap} {L : Addr} {m : Str → Option Value} (n : h.Ns L m) (u : ∀ o, h.get? L = some o → ∃ sl, h'.get? L = some { o with slots := sl }) : h'.Ns L m := by
  obtain ⟨o, es, ep, ho, r⟩ := n
  obtain ⟨sl, q⟩ := u o ho
  exact ⟨_, es, ep, q, r⟩

theorem fra_cons {env : Env} {envs : List Env} {L : Addr} (h : env.frame = some L) : fra (env :: envs) = L :: fra envs := by simp [fra, h]

theorem fun_base {h base : Heap} : ∀ {l : List Env}, h.FunFrames base l → ∀ b ∈ fra l, base.get? b = none
  | [], _, b, hb => by simp [fra] at hb
  | env :: l, ⟨_, ⟨L, _, hf, hn, _⟩, hr⟩, b, hb => by
    rw [fra_cons hf] at hb
    rcases List.mem_cons.mp hb with rfl | hb
    · exact hn
    · exact fun_base hr b hb
theorem fun_up {h h' base : Heap} : ∀ {l : List Env}, h.FunFrames base l → (∀ b ∈ fra l, ∀ o, h.get? b = some o → ∃ sl, h'.get? b = some { o with slots := sl }) → h'.FunFrames base l
  | [], _, _ => trivial
  | env :: l, ⟨hk, ⟨L, o, hf, hn, ho, hd⟩, hr⟩, u => by
    rw [fra_cons hf] at u
    obtain ⟨sl, q⟩ := u L (.head _) o ho
    exact ⟨hk, ⟨L, _, hf, hn, q, hd⟩, fun_up hr fun b hb => u b (.tail _ hb)⟩
theorem fun_there {h base : Heap} : ∀ {l : List Env}, h.FunFrames base l → ∀ b ∈ fra l, ∃ o, h.get? b = some o ∧ ∀ vs, o.data ≠ .fields vs
  | [], _, b, hb => by simp [fra] at hb
  | env :: l, ⟨_, ⟨L, o, hf, hn, ho, hd⟩, hr⟩, b, hb => by
    rw [fra_cons hf] at hb
    rcases List.mem_cons.mp hb with rfl | hb
    · exact ⟨o, ho, hd⟩
    · exact fun_there hr b hb

theorem below_slid {A : Around} {base h₀ h₀' : Heap} {outer : List Env} (B : Below A base outer h₀) (S : Slid (fra outer) h₀ h₀') : Below A base outer h₀' :=
  ⟨B.stack, fun b o e => S.same b o (B.stays b o e) (fun q => by rw [fun_base B.frames b q] at e; cases e), fun_up B.frames fun b hb o ho => S.slid b o ho hb⟩

noncomputable def Ents (base h : Heap) (l : List (Addr × Obj)) : Prop := ∀ p ∈ l, h.get? p.1 = some p.2 ∧ base.get? p.1 = none

noncomputable abbrev Ar (dp : Nat) (envs : List Env) (gd : Option (List Code)) (un : Nat) : Around := { handled := none, depth := dp, frames := some envs, guards := gd, units := un }

noncomputable def Con (w : World) (base : Heap) (f : Addr) (vs : List Value) (d : Nat) (pre : List (Addr × Obj)) (post rs : Value → List (Addr × Obj) → Prop) : Prop :=
  ∀ (dp : Nat) (envs : List Env) (gd : Option (List Code)) (un : Nat) (s : Shared) (Q E : Value → Shared → Prop),
    dp + d < recursionLimit → un + 100 * d ≤ 5000 →
    base.StaysIn s.heap → s.heap.FunFrames base envs → Ents base s.heap pre → (∀ p ∈ pre, p.1 ∉ fra envs) →
    (∀ v led h' tk', post v led → Chg (fra envs) (pre.map (·.1)) s.heap h' → Ents base h' led → (∀ p ∈ led, p.1 ∈ pre.map (·.1) ∨ s.heap.get? p.1 = none) → Q v { s with heap := h', toks := tk' }) →
    (∀ e led h' tk', rs e led → Chg (fra envs) (pre.map (·.1)) s.heap h' → Ents base h' led → (∀ p ∈ led, p.1 ∈ pre.map (·.1) ∨ s.heap.get? p.1 = none) → E e { s with heap := h', toks := tk' }) →
    codeAny (model PySem.Challenge.rw_ny0334_01.prog w) (Ar dp envs gd un) (.call (.ref f) ⟨vs, []⟩) (fun r s' => match r with | .ok (.ret v) => Q v s' | .ok _ => False | .error e => E e s') s

inductive BodyQ (g : Heap) (L : Addr) (envs : List Env) (s : Shared) (post : Value → List (Addr × Obj) → Prop) (fl : Flow) (s' : Shared) : Prop
  | mk (g' : Heap) (m' : Str → Option Value) (led : List (Addr × Obj)) (h' : Heap) (tk' : Nat) (e : s' = { s with heap := h', toks := tk' }) (S : Slid (fra envs) g g') (F : Fr g' L h' m') (N : News g' L h' led) (p : post (match fl with | .ret v => v | _ => .none) led) : BodyQ g L envs s post fl s'
inductive EndE (g : Heap) (L : Addr) (envs : List Env) (s : Shared) (rs : Value → List (Addr × Obj) → Prop) (e : Value) (s' : Shared) : Prop
  | mk (g' : Heap) (led : List (Addr × Obj)) (h' : Heap) (tk' : Nat) (es : s' = { s with heap := h', toks := tk' }) (S : Slid (fra envs) g g') (K : g'.StaysIn h') (N : ∀ p ∈ led, h'.get? p.1 = some p.2 ∧ p.1 ≠ L ∧ g'.get? p.1 = none) (r : rs e led) : EndE g L envs s rs e s'
noncomputable def BodyE (w : World) (A : Around) (env : Env) (g : Heap) (L : Addr) (envs : List Env) (s : Shared) (rs : Value → List (Addr × Obj) → Prop) (e : Value) (s' : Shared) : Prop :=
  wpAny (model PySem.Challenge.rw_ny0334_01.prog w) A (leaving env e) (fun _ s'' => EndE g L envs s rs e s'') (fun _ _ => False) s'

theorem chg_of {s : Shared} {pre : List (Addr × Obj)} {fs : List Addr} {g' h' : Heap} (S : Slid fs (hideAll s.heap (pre.map (·.1))) g') (k : g'.StaysIn h') :
    Chg fs (pre.map (·.1)) s.heap h' := by
  refine ⟨fun b o e nf nx => k b o (S.same b o (hideAll_get _ e nx) nf), fun b o e hf nx => ?_⟩
  obtain ⟨sl, q⟩ := S.slid b o (hideAll_get _ e nx) hf
  exact ⟨sl, k b _ q⟩
theorem ents_of {base : Heap} {s : Shared} {envs : List Env} {pre led : List (Addr × Obj)} {g' h' : Heap} {L : Addr} (hb : base.StaysIn s.heap) (hp : Ents base s.heap pre)
    (S : Slid (fra envs) (hideAll s.heap (pre.map (·.1))) g') (N : ∀ p ∈ led, h'.get? p.1 = some p.2 ∧ p.1 ≠ L ∧ g'.get? p.1 = none) :
    Ents base h' led ∧ ∀ p ∈ led, p.1 ∈ pre.map (·.1) ∨ s.heap.get? p.1 = none := by
  have key : ∀ p ∈ led, p.1 ∈ pre.map (·.1) ∨ s.heap.get? p.1 = none := fun p hpl => by
    by_cases hx : p.1 ∈ pre.map (·.1)
    · exact .inl hx
    · refine .inr ?_
      cases q : s.heap.get? p.1 with
      | none => rfl
      | some o =>
        have q' := hideAll_get _ q hx
        have hn := (N p hpl).2.2
        by_cases hf : p.1 ∈ fra envs
        · obtain ⟨sl, r⟩ := S.slid _ _ q' hf
          rw [hn] at r; cases r
        · rw [S.same _ _ q' hf] at hn; cases hn
  refine ⟨fun p hpl => ⟨(N p hpl).1, ?_⟩, key⟩
  rcases key p hpl with hx | hn
  · obtain ⟨q, hq, e⟩ := List.mem_map.mp hx
    rw [← e]; exact (hp q hq).2
  · cases q : base.get? p.1 with
    | none => rfl
    | some o => rw [hb _ _ q] at hn; cases hn

section
variable {w : World} {base : Heap} {K : Frag} {p : Program} {loose : List Str} {mean : ExcName → Option Value} {mg mb : Str → Option Value}
  {name qual : Str} {params : Arguments} {body : List Stmt} {scope : Scope} {dV kV doc pm cdv ct oc : Value} {an od : Option Addr} {osl : Array (Option Value)} {f : Addr} {vs : List Value} {binds : List (Str × Value)} {d : Nat} {pre : List (Addr × Obj)} {post rs : Value → List (Addr × Obj) → Prop}

theorem Con.of (X : K.In base) (T : Top p loose mean mg mb base)
    (ho : K.lookup f = some ⟨oc, od, .func (fnOf name qual params body scope dV kV doc pm an cdv ct), osl⟩) (hcd : codeIn K cdv qual = true)
    (hbind : ∀ s, BindsTo s (fnOf name qual params body scope dV kV doc pm an cdv ct) ⟨vs, []⟩ binds) (hloc : ∀ y ∈ binds, scope.names.lookup y.1 = some .local)
    (h : ∀ (dp : Nat) (envs : List Env) (gd : Option (List Code)) (un : Nat) (s : Shared) (g : Heap) (L : Addr) (h₁ : Heap) (tk : Nat), dp + d < recursionLimit → un + 100 * d ≤ 5000 →
      Below (Ar dp envs gd un) base envs g → K.In g → Top p loose mean mg mb g → Fr g L h₁ (fun y => binds.reverse.lookup y) → News g L h₁ pre → (∀ q ∈ pre, q.1 < L) →
      wpAny (model PySem.Challenge.rw_ny0334_01.prog w) ((Ar dp envs gd un).deeper (envOf qual scope L f cdv)) (execs body (envOf qual scope L f cdv)) (BodyQ g L envs s post) (BodyE w ((Ar dp envs gd un).deeper (envOf qual scope L f cdv)) (envOf qual scope L f cdv) g L envs s rs) { s with heap := h₁, toks := tk })
    (hco : scope.isCoroutine = false) (hgen : scope.isGenerator = false) (hk : scope.kind = .function)
    (hcell : ∀ x ∈ scope.names, x.2 ≠ .cell) : Con w base f vs d pre post rs := by
  intro dp envs gd un s Q E hdp hun hb hff hp hpf hQ hE
  have hbg : base.StaysIn (hideAll s.heap (pre.map (·.1))) := fun b o e => hideAll_get _ (hb b o e) fun q => by
    obtain ⟨x, hx, e'⟩ := List.mem_map.mp q
    have := (hp x hx).2
    rw [e', e] at this; cases this
  have Bg : Below (Ar dp envs gd un) base envs (hideAll s.heap (pre.map (·.1))) := ⟨rfl, hbg, funFrames_hideAll hff fun env he a ha q => by
    obtain ⟨x, hx, e'⟩ := List.mem_map.mp ha
    exact hpf x hx (List.mem_filterMap.mpr ⟨env, he, by rw [q, ← e']⟩)⟩
  refine (codeAny_call_def (fd := fnOf name qual params body scope dV kV doc pm an cdv ct) (body := body) (binds := binds) (show dp < recursionLimit by omega) (hb _ _ (X _ _ ho)) rfl (T.nolimit.keeps hb) (codeRec_of (X.keeps hb) hcd) rfl (hbind s) hcell hloc (fun h₁ hns hk₁ => ?_) hco hgen hk)
  have F₁ : Fr (hideAll s.heap (pre.map (·.1))) s.heap.objs.size h₁ (fun y => binds.reverse.lookup y) := ⟨hns, fun b o e => hk₁ b o (of_hideAll _ e), Nat.le_of_eq (hideAll_size _ _)⟩
  have N₁ : News (hideAll s.heap (pre.map (·.1))) s.heap.objs.size h₁ pre := fun q hq => ⟨hk₁ _ _ (hp q hq).1, Nat.ne_of_lt (Heap.lt_size (hp q hq).1), hideAll_none _ (List.mem_map_of_mem hq)⟩
  refine wpAny_mono (h dp envs gd un s _ s.heap.objs.size h₁ _ hdp hun Bg (X.keeps hbg) (T.keeps hbg) F₁ N₁ fun q hq => Heap.lt_size (hp q hq).1) ?_ ?_
  · rintro fl s' ⟨g', m', led, h', tk', rfl, S, F', N', hpost⟩
    obtain ⟨e1, e2⟩ := ents_of (L := s.heap.objs.size) hb hp S N'
    exact hQ _ led h' tk' hpost (chg_of S F'.keep) e1 e2
  · intro e s' he
    refine wpAny_mono he ?_ fun _ _ x => x.elim
    rintro _ s'' ⟨g', led, h', tk', rfl, S, hk', N', hrs⟩
    obtain ⟨e1, e2⟩ := ents_of (L := s.heap.objs.size) hb hp S N'
    exact hE e led h' tk' hrs (chg_of S hk') e1 e2
end

section
variable {w : World} {A₀ : Around} {dp un : Nat} {gd : Option (List Code)} {base h₀ : Heap} {outer : List Env} {env : Env} {L : Addr} {m : Str → Option Value} {s : Shared} {news rest : List (Addr × Obj)} {Q E : Value → Shared → Prop}
  {f : Addr} {vs : List Value} {d : Nat} {pre : List (Addr × Obj)} {post rs : Value → List (Addr × Obj) → Prop}

theorem after_call (B : Below A₀ base outer h₀) (F : Fr h₀ L s.heap m) (N : News h₀ L s.heap news) (hf : env.frame = some L)
    (hsub : ∀ q ∈ pre, q ∈ news) (hrest : ∀ q ∈ rest, q ∈ news ∧ q.1 ∉ pre.map (·.1)) {led : List (Addr × Obj)} {h' : Heap}
    (C : Chg (fra (env :: outer)) (pre.map (·.1)) s.heap h') (I : Ents base h' led) (hl : ∀ p ∈ led, p.1 ∈ pre.map (·.1) ∨ s.heap.get? p.1 = none) :
    ∃ h₀', Slid (fra outer) h₀ h₀' ∧ Below A₀ base outer h₀' ∧ Fr h₀' L h' m ∧ News h₀' L h' (led ++ rest) ∧ (∀ p ∈ led, ∀ q ∈ rest, p.1 ≠ q.1) := by
  rw [fra_cons hf] at C
  have nL : ∀ q ∈ pre, q.1 ≠ L := fun q hq => (N q (hsub q hq)).2.1
  have nP : ∀ b o, h₀.get? b = some o → b ∉ pre.map (·.1) := fun b o e hm => by
    obtain ⟨q, hq, e'⟩ := List.mem_map.mp hm
    have := (N q (hsub q hq)).2.2
    rw [e', e] at this; cases this
  have bL : ∀ b o, h₀.get? b = some o → b ≠ L := fun b o e q => absurd (Nat.lt_of_lt_of_le (Heap.lt_size e) F.above) (by rw [q]; exact Nat.lt_irrefl _)
  obtain ⟨oL, es, ep, hL, _⟩ := id F.ns
  have LP : L ∉ pre.map (·.1) := fun hm => by
    obtain ⟨q, hq, e'⟩ := List.mem_map.mp hm
    exact nL q hq e'
  obtain ⟨g', S, k⟩ := slide (fs := fra outer) (g := h₀) (h := h') (fun b o e n => C.same b o (F.keep b o e) (fun hm => by
      rcases List.mem_cons.mp hm with q | hm
      · exact bL b o e q
      · exact n hm) (nP b o e)) (fun b o e n => C.slid b o (F.keep b o e) (List.mem_cons_of_mem _ n) (nP b o e))
  refine ⟨g', S, below_slid B S, ⟨Ns_up F.ns fun o e => C.slid L o e (.head _) LP, k, by rw [S.size]; exact F.above⟩, fun p hp => ?_, fun p hp q hq e => ?_⟩
  · rcases List.mem_append.mp hp with hp | hp
    · refine ⟨(I p hp).1, ?_, ?_⟩
      · rcases hl p hp with hm | hn
        · obtain ⟨q, hq, e⟩ := List.mem_map.mp hm
          rw [← e]; exact nL q hq
        · intro e; rw [e, hL] at hn; cases hn
      · refine S.none _ ?_
        rcases hl p hp with hm | hn
        · obtain ⟨q, hq, e⟩ := List.mem_map.mp hm
          rw [← e]; exact (N q (hsub q hq)).2.2
        · cases q : h₀.get? p.1 with
          | none => rfl
          | some o => rw [F.keep _ _ q] at hn; cases hn
    · obtain ⟨hm, hx⟩ := hrest p hp
      obtain ⟨e1, e2, e3⟩ := N p hm
      refine ⟨C.same _ _ e1 (fun hm => ?_) hx, e2, S.none _ e3⟩
      rcases List.mem_cons.mp hm with q | hm
      · exact e2 q
      · obtain ⟨o, ho, _⟩ := fun_there B.frames _ hm
        rw [e3] at ho; cases ho
  · obtain ⟨hm, hx⟩ := hrest q hq
    rcases hl p hp with hm' | hn
    · exact hx (e ▸ hm')
    · rw [e, (N q hm).1] at hn; cases hn

theorem Con.use (C : Con w base f vs d pre post rs) (B : Below A₀ base outer h₀) (F : Fr h₀ L s.heap m) (N : News h₀ L s.heap news)
    (hf : env.frame = some L) (hke : env.scope.kind = .function) (hd : dp + d < recursionLimit) (hu : un + 100 * d ≤ 5000)
    (hsub : ∀ q ∈ pre, q ∈ news) (hrest : ∀ q ∈ rest, q ∈ news ∧ q.1 ∉ pre.map (·.1))
    (hQ : ∀ v led h₀' h' tk', post v led → Slid (fra outer) h₀ h₀' → Below A₀ base outer h₀' → Fr h₀' L h' m → News h₀' L h' (led ++ rest) → (∀ p ∈ led, ∀ q ∈ rest, p.1 ≠ q.1) → Q v { s with heap := h', toks := tk' })
    (hE : ∀ e led h₀' h' tk', rs e led → Slid (fra outer) h₀ h₀' → Below A₀ base outer h₀' → Fr h₀' L h' m → News h₀' L h' (led ++ rest) → (∀ p ∈ led, ∀ q ∈ rest, p.1 ≠ q.1) → E e { s with heap := h', toks := tk' }) :
    wpAny (model PySem.Challenge.rw_ny0334_01.prog w) (Ar dp (env :: outer) gd un) (call (.ref f) vs) Q E s := by
  have B₁ := pushX B F hf hke
  refine wpAny_call (C dp (env :: outer) gd un s Q E hd hu B₁.stays B₁.frames (fun q hq => ⟨(N q (hsub q hq)).1, ?_⟩) (fun q hq hm => ?_) ?_ ?_)
  · have := (N q (hsub q hq)).2.2
    cases e : base.get? q.1 with
    | none => rfl
    | some o => rw [B.stays _ _ e] at this; cases this
  · rw [fra_cons hf] at hm
    obtain ⟨e1, e2, e3⟩ := N q (hsub q hq)
    rcases List.mem_cons.mp hm with q' | hm
    · exact e2 q'
    · obtain ⟨o, ho, _⟩ := fun_there B.frames _ hm
      rw [e3] at ho; cases ho
  · intro v led h' tk' hp C' I hl
    obtain ⟨h₀', S, B', F', N', ne⟩ := after_call B F N hf hsub hrest C' I hl
    exact hQ v led h₀' h' tk' hp S B' F' N' ne
  · intro v led h' tk' hp C' I hl
    obtain ⟨h₀', S, B', F', N', ne⟩ := after_call B F N hf hsub hrest C' I hl
    exact hE v led h₀' h' tk' hp S B' F' N' ne

theorem Con.useM {q : Addr} {self : Value} {ps : List Value} (C : Con w base f (self :: ps) d pre post rs) (hq : s.heap.get? q = some (methodObj (.ref f) self)) (B : Below A₀ base outer h₀) (F : Fr h₀ L s.heap m) (N : News h₀ L s.heap news)
    (hf : env.frame = some L) (hke : env.scope.kind = .function) (hd : dp + d < recursionLimit) (hu : un + 100 * d ≤ 5000)
    (hsub : ∀ q ∈ pre, q ∈ news) (hrest : ∀ q ∈ rest, q ∈ news ∧ q.1 ∉ pre.map (·.1))
    (hQ : ∀ v led h₀' h' tk', post v led → Slid (fra outer) h₀ h₀' → Below A₀ base outer h₀' → Fr h₀' L h' m → News h₀' L h' (led ++ rest) → (∀ p ∈ led, ∀ q ∈ rest, p.1 ≠ q.1) → Q v { s with heap := h', toks := tk' })
    (hE : ∀ e led h₀' h' tk', rs e led → Slid (fra outer) h₀ h₀' → Below A₀ base outer h₀' → Fr h₀' L h' m → News h₀' L h' (led ++ rest) → (∀ p ∈ led, ∀ q ∈ rest, p.1 ≠ q.1) → E e { s with heap := h', toks := tk' }) :
    wpAny (model PySem.Challenge.rw_ny0334_01.prog w) (Ar dp (env :: outer) gd un) (call (.ref q) ps) Q E s := by
  have B₁ := pushX B F hf hke
  refine wpAny_call (method_call hq (C dp (env :: outer) gd un s Q E hd hu B₁.stays B₁.frames (fun q hq => ⟨(N q (hsub q hq)).1, ?_⟩) (fun q hq hm => ?_) ?_ ?_))
  · have := (N q (hsub q hq)).2.2
    cases e : base.get? q.1 with
    | none => rfl
    | some o => rw [B.stays _ _ e] at this; cases this
  · rw [fra_cons hf] at hm
    obtain ⟨e1, e2, e3⟩ := N q (hsub q hq)
    rcases List.mem_cons.mp hm with q' | hm
    · exact e2 q'
    · obtain ⟨o, ho, _⟩ := fun_there B.frames _ hm
      rw [e3] at ho; cases ho
  · intro v led h' tk' hp C' I hl
    obtain ⟨h₀', S, B', F', N', ne⟩ := after_call B F N hf hsub hrest C' I hl
    exact hQ v led h₀' h' tk' hp S B' F' N' ne
  · intro v led h' tk' hp C' I hl
    obtain ⟨h₀', S, B', F', N', ne⟩ := after_call B F N hf hsub hrest C' I hl
    exact hE v led h₀' h' tk' hp S B' F' N' ne
end
end Mine
end

section
open PySem PySem.Spec PySem.Calls PySem.W PyProof.Rows
set_option Elab.async false
set_option maxRecDepth 100000
set_option maxHeartbeats 8000000
namespace Mine

noncomputable def ExF (e : Addr) (cls fl : Value) (l : List (Addr × Obj)) : Prop :=
  ∃ oe vs a0 T oT ts, oe.cls = cls ∧ oe.data = .fields vs ∧ vs[0]? = some a0 ∧ vs[1]? = some (.ref T) ∧ T ≠ e ∧ oT.data = .fields ts ∧ ts[3]? = some fl ∧ l = [(e, oe), (T, oT)]
noncomputable def ExL (e : Addr) (cls : Value) (l : List (Addr × Obj)) : Prop :=
  ExF e cls .none l ∨ ∃ oe vs a0, oe.cls = cls ∧ oe.data = .fields vs ∧ vs[0]? = some a0 ∧ vs[1]? = some .none ∧ l = [(e, oe)]

theorem Chg.refl (fs X : List Addr) (h : Heap) : Chg fs X h h := ⟨fun _ _ e _ _ => e, fun _ o e _ _ => ⟨o.slots, e⟩⟩
theorem Chg.trans {fs X Y : List Addr} {h h1 h2 : Heap} (a : Chg fs X h h1) (b : Chg fs Y h1 h2) (hy : ∀ q ∈ Y, q ∈ X ∨ h.get? q = none) : Chg fs X h h2 := by
  have ny : ∀ q o, h.get? q = some o → q ∉ X → q ∉ Y := fun q o e nx hq => by
    rcases hy q hq with k | k
    · exact nx k
    · rw [k] at e; cases e
  refine ⟨fun q o e nf nx => b.same q o (a.same q o e nf nx) nf (ny q o e nx), fun q o e hf nx => ?_⟩
  obtain ⟨s1, e1⟩ := a.slid q o e hf nx
  obtain ⟨s2, e2⟩ := b.slid q _ e1 hf (ny q o e nx)
  exact ⟨s2, e2⟩

section
variable {M : Model} {A : Around} {E : Value → Shared → Prop} {s : Shared} {base : Heap} {env : Env} {outer : List Env} {L e : Addr} {cls : Value} {l : List (Addr × Obj)} {Q : Unit → Shared → Prop}

theorem noted_led {fl a0 : Value} {h h' : Heap} (hff : h.FunFrames base (env :: outer)) (hb : base.StaysIn h) (I : Ents base h l) (he : e ∈ l.map (·.1))
    (hN : Heap.NotedW (hideAll h (fra (env :: outer) ++ l.map (·.1))) (env :: outer) e cls a0 fl h h') :
    ∃ l', ExF e cls fl l' ∧ Chg (fra (env :: outer)) (l.map (·.1)) h h' ∧ Ents base h' l' ∧ ∀ p ∈ l', p.1 ∈ l.map (·.1) ∨ h.get? p.1 = none := by
  refine hideG fun G0 k0 => ?_; obtain ⟨k1, k2, ⟨oe, vs, T, oT, ts, e1, ⟨e2, e3⟩, e4, e5, e6, e7, e8, e9, e10⟩, k4⟩ := hN; refine k0 ?_; clear k0 G0
  have Tfr : T ∈ l.map (·.1) ∨ h.get? T = none := by
    by_cases hm : T ∈ l.map (·.1)
    · exact .inl hm
    · refine .inr ?_
      cases q : h.get? T with
      | none => rfl
      | some o =>
        by_cases hf : T ∈ fra (env :: outer)
        · refine hideG fun G0 k0 => ?_; obtain ⟨o', ho', nf⟩ := fun_there hff T hf; refine k0 ?_; clear k0 G0
          obtain ⟨sl, r⟩ := k4 T o' ho' nf
          rw [e8] at r
          injection r with r
          exact absurd (by rw [r] at e9; exact e9) (nf ts)
        · rw [hideAll_get _ q (fun hm' => (List.mem_append.mp hm').elim hf hm)] at e6; cases e6
  refine ⟨[(e, oe), (T, oT)], ⟨oe, vs, a0, T, oT, ts, e2, e4, e3, e5, e7, e9, e10, rfl⟩, ⟨fun b o eb nf nx => k1 b o (hideAll_get _ eb fun hm => (List.mem_append.mp hm).elim nf nx), fun b o eb hf nx => ?_⟩, ?_, ?_⟩
  · refine hideG fun G0 k0 => ?_; obtain ⟨o', ho', nf⟩ := fun_there hff b hf; refine k0 ?_; clear k0 G0
    rw [eb] at ho'
    injection ho' with ho'
    subst ho'
    exact k4 b o eb nf
  · intro p hp
    have key : ∀ a, (a ∈ l.map (·.1) ∨ h.get? a = none) → base.get? a = none := fun a ha => by
      rcases ha with hm | hn
      · refine hideG fun G0 k0 => ?_; obtain ⟨q, hq, r⟩ := List.mem_map.mp hm; refine k0 ?_; clear k0 G0
        rw [← r]; exact (I q hq).2
      · cases q : base.get? a with
        | none => rfl
        | some o => rw [hb _ _ q] at hn; cases hn
    rcases List.mem_cons.mp hp with rfl | hp
    · exact ⟨e1, key _ (.inl he)⟩
    · rw [List.mem_singleton.mp hp]
      exact ⟨e8, key _ Tfr⟩
  · intro p hp
    rcases List.mem_cons.mp hp with rfl | hp
    · exact .inl he
    · rw [List.mem_singleton.mp hp]; exact Tfr

theorem hide_frames {h : Heap} (hff : h.FunFrames base (env :: outer)) (l : List Addr) : h.FunFrames (hideAll h (fra (env :: outer) ++ l)) (env :: outer) := by
  have : ∀ {es : List Env}, h.FunFrames base es → (∀ b ∈ fra es, b ∈ fra (env :: outer)) → h.FunFrames (hideAll h (fra (env :: outer) ++ l)) es := by
    intro es
    induction es with
    | nil => intro _ _; trivial
    | cons x es ih =>
      intro hP1 hs; refine hideG fun G0 k0 => ?_; obtain ⟨hk, ⟨L', o, hf, hn, ho, hd⟩, hr⟩ := hP1; refine k0 ?_; clear k0 G0
      rw [fra_cons hf] at hs
      exact ⟨hk, ⟨L', o, hf, hideAll_none _ (List.mem_append_left _ (hs L' (.head _))), ho, hd⟩, ih hr fun b hb => hs b (.tail _ hb)⟩
  exact this hff fun b hb => hb

theorem mem_l (hx : ExL e cls l) : e ∈ l.map (·.1) := by
  rcases hx with ⟨oe, vs, a0, T, oT, ts, _, _, _, _, _, _, _, rfl⟩ | ⟨oe, vs, a0, _, _, _, _, rfl⟩ <;> simp

theorem note_rest (hfr : A.frames = some (env :: outer)) (hf : env.frame = some L) (hff : s.heap.FunFrames base (env :: outer)) (hb : base.StaysIn s.heap) (I : Ents base s.heap l) (hx : ExL e cls l) (hlf : ∀ p ∈ l, p.1 ∉ fra (env :: outer))
    (h : ∀ l' h', ExF e cls (rawInt L) l' → Chg (fra (env :: outer)) (l.map (·.1)) s.heap h' → Ents base h' l' → (∀ p ∈ l', p.1 ∈ l.map (·.1) ∨ s.heap.get? p.1 = none) → Q () { s with heap := h' }) :
    wpAny M A (noteFrame (.ref e) env) Q E s := by
  have hel := mem_l hx
  have hkb : (hideAll s.heap (fra (env :: outer) ++ l.map (·.1))).StaysIn s.heap := fun b o e => of_hideAll _ e
  have hen : (hideAll s.heap (fra (env :: outer) ++ l.map (·.1))).get? e = none := hideAll_none _ (List.mem_append_right _ hel)
  rcases hx with ⟨oe, vs, a0, T, oT, ts, c1, c2, c3, c4, c5, c6, c7, rfl⟩ | ⟨oe, vs, a0, c1, c2, c3, c4, rfl⟩
  · have he := (I (e, oe) (.head _)).1
    have hT := (I (T, oT) (.tail _ (.head _))).1
    refine wpAny_noteFrame_onW (cls := cls) (a0 := a0) hfr (hide_frames hff _) hf ⟨oe, vs, T, oT, ts, he, ⟨c1, c3⟩, c2, c4, hideAll_none _ (List.mem_append_right _ (by simp)), c5, hT, c6, c7⟩ hkb hen fun h' hN => ?_
    refine hideG fun G0 k0 => ?_; obtain ⟨l', x1, x2, x3, x4⟩ := noted_led hff hb I hel hN; refine k0 ?_; clear k0 G0
    exact h l' h' x1 x2 x3 x4
  · have he := (I (e, oe) (.head _)).1
    unfold noteFrame
    simp only [hf]
    refine wpAny_bind (wpAny_field he c2 c4 ?_)
    rw [if_neg (by decide)]
    refine wpAny_entryW (a0 := a0) hfr (hide_frames hff _) hf he hkb hen c2 (Array.getElem?_eq_some_iff.mp c4).1 c3 fun h' hN => ?_
    rw [c1] at hN
    refine hideG fun G0 k0 => ?_; obtain ⟨l', x1, x2, x3, x4⟩ := noted_led hff hb I hel hN; refine k0 ?_; clear k0 G0
    exact h l' h' x1 x2 x3 x4

theorem note_here (hf : env.frame = some L) (I : Ents base s.heap l) (hx : ExF e cls (rawInt L) l) (h : Q () s) : wpAny M A (noteFrame (.ref e) env) Q E s := by
  refine hideG fun G0 k0 => ?_; obtain ⟨oe, vs, a0, T, oT, ts, c1, c2, c3, c4, c5, c6, c7, rfl⟩ := hx; refine k0 ?_; clear k0 G0
  exact wpAny_noteFrame_inFlight hf (I (e, oe) (.head _)).1 c2 c4 (I (T, oT) (.tail _ (.head _))).1 c6 c7 h

theorem flight {x : Value} {fr : Option Addr} {fs : List Addr} (I : Ents base s.heap l) (hx : ExF e cls x l) (hlf : ∀ p ∈ l, p.1 ∉ fs)
    (h : ∀ l' h', ExF e cls (fr.elim .none fun f => rawInt f) l' → Chg fs (l.map (·.1)) s.heap h' → Ents base h' l' → l'.map (·.1) = l.map (·.1) → Q () { s with heap := h' }) :
    wpAny M A (setFlight (.ref e) fr) Q E s := by
  refine hideG fun G0 k0 => ?_; obtain ⟨oe, vs, a0, T, oT, ts, c1, c2, c3, c4, c5, c6, c7, rfl⟩ := hx; refine k0 ?_; clear k0 G0
  have he := (I (e, oe) (.head _)).1
  have hT := (I (T, oT) (.tail _ (.head _))).1
  have hsz : 3 < ts.size := (Array.getElem?_eq_some_iff.mp c7).1
  unfold setFlight
  refine wpAny_bind (wpAny_field he c2 c4 ?_)
  rw [if_pos (show (Value.ref T != Value.none) = true from by simp)]
  refine wpAny_setField hT c6 hsz ?_
  have hd3 := Obj.data_mapFields c6 (·.setIfInBounds 3 (fr.elim Value.none fun f => rawInt f))
  have hT3 := Heap.get?_update_self (Obj.mapFields (·.setIfInBounds 3 (fr.elim Value.none fun f => rawInt f))) hT (Obj.isFreed_of_fields hd3)
  refine h [(e, oe), (T, oT.mapFields (·.setIfInBounds 3 (fr.elim Value.none fun f => rawInt f)))] _ ⟨oe, vs, a0, T, _, _, c1, c2, c3, c4, c5, hd3, by simp [hsz], rfl⟩ ⟨fun b o eb _ nx => ?_, fun b o eb _ nx => ⟨o.slots, ?_⟩⟩ ?_ rfl
  · rw [Heap.get?_update_other _ _ (fun q => nx (by rw [← q]; simp))]; exact eb
  · rw [Heap.get?_update_other _ _ (fun q => nx (by rw [← q]; simp))]; exact eb
  · intro p hp
    rcases List.mem_cons.mp hp with rfl | hp
    · exact ⟨by rw [Heap.get?_update_other _ _ c5]; exact he, (I (e, oe) (.head _)).2⟩
    · rw [List.mem_singleton.mp hp]
      exact ⟨hT3, (I (T, oT) (.tail _ (.head _))).2⟩

theorem flight_rest {fs : List Addr} (I : Ents base s.heap l) (hx : ExL e cls l) (hlf : ∀ p ∈ l, p.1 ∉ fs)
    (h : ∀ l' h', ExL e cls l' → Chg fs (l.map (·.1)) s.heap h' → Ents base h' l' → l'.map (·.1) = l.map (·.1) → Q () { s with heap := h' }) :
    wpAny M A (setFlight (.ref e) none) Q E s := by
  rcases hx with hx | hx
  · exact flight I hx hlf fun l' h' a b c d => h l' h' (.inl a) b c d
  · refine hideG fun G0 k0 => ?_; obtain ⟨oe, vs, a0, c1, c2, c3, c4, rfl⟩ := hx; refine k0 ?_; clear k0 G0
    have he := (I (e, oe) (.head _)).1
    unfold setFlight
    refine wpAny_bind (wpAny_field he c2 c4 ?_)
    rw [if_neg (by decide)]
    exact wpAny_pure (h _ _ (.inr ⟨oe, vs, a0, c1, c2, c3, c4, rfl⟩) (Chg.refl ..) I rfl)
end
end Mine
end

section
open PySem PySem.Spec PySem.Calls PySem.W PyProof.Rows
set_option Elab.async false
set_option maxRecDepth 100000
set_option maxHeartbeats 8000000
namespace Mine

theorem ents_news {A₀ : Around} {base g h : Heap} {outer : List Env} {L : Addr} {l news : List (Addr × Obj)} (B : Below A₀ base outer g) (N : News g L h news) (hs : ∀ p ∈ l, p ∈ news) : Ents base h l := fun p hp => ⟨(N p (hs p hp)).1, by
  have := (N p (hs p hp)).2.2
  cases q : base.get? p.1 with
  | none => rfl
  | some o => rw [B.stays _ _ q] at this; cases this⟩
theorem off_frames {A₀ : Around} {base g h : Heap} {outer : List Env} {env : Env} {L : Addr} {l news : List (Addr × Obj)} (B : Below A₀ base outer g) (N : News g L h news) (hf : env.frame = some L) (hs : ∀ p ∈ l, p ∈ news) :
    ∀ p ∈ l, p.1 ∉ fra (env :: outer) := fun p hp hm => by
  rw [fra_cons hf] at hm
  refine hideG fun G0 k0 => ?_; obtain ⟨e1, e2, e3⟩ := N p (hs p hp); refine k0 ?_; clear k0 G0
  rcases List.mem_cons.mp hm with q | hm
  · exact e2 q
  · refine hideG fun G0 k0 => ?_; obtain ⟨o, ho, _⟩ := fun_there B.frames _ hm; refine k0 ?_; clear k0 G0
    rw [e3] at ho; cases ho

section
variable {M : Model} {A A₀ : Around} {E : Value → Shared → Prop} {s : Shared} {base g : Heap} {env : Env} {outer : List Env} {L e : Addr} {m : Str → Option Value} {cls : Value} {l rest : List (Addr × Obj)} {Q : Unit → Shared → Prop}

theorem rest_off {news : List (Addr × Obj)} (ap : ∀ p ∈ l, ∀ q ∈ rest, p.1 ≠ q.1) (hs : ∀ q ∈ rest, q ∈ news) : ∀ q ∈ rest, q ∈ news ∧ q.1 ∉ l.map (·.1) := fun q hq => ⟨hs q hq, fun hm => by
  refine hideG fun G0 k0 => ?_; obtain ⟨p, hp, e⟩ := List.mem_map.mp hm; refine k0 ?_; clear k0 G0
  exact ap p hp q hq e⟩

theorem try_note (B : Below A₀ base outer g) (F : Fr g L s.heap m) (N : News g L s.heap (l ++ rest)) (ap : ∀ p ∈ l, ∀ q ∈ rest, p.1 ≠ q.1) (hA : A.frames = some (env :: outer)) (hf : env.frame = some L) (hke : env.scope.kind = .function) (hx : ExL e cls l)
    (h : ∀ g' h' l', ExF e cls .none l' → Slid (fra outer) g g' → Below A₀ base outer g' → Fr g' L h' m → News g' L h' (l' ++ rest) → (∀ p ∈ l', ∀ q ∈ rest, p.1 ≠ q.1) → Q () { s with heap := h' }) :
    wpAny M A (noteFrame (.ref e) env) (fun _ s₂ => wpAny M A (setFlight (.ref e) none) Q E s₂) E s := by
  have B₁ := pushX B F hf hke
  have sub : ∀ p ∈ l, p ∈ l ++ rest := fun p hp => List.mem_append_left _ hp
  refine note_rest hA hf B₁.frames B₁.stays (ents_news B N sub) hx (off_frames B N hf sub) fun l1 h1 x1 c1 i1 f1 => ?_
  refine flight (fs := fra (env :: outer)) (s := { s with heap := h1 }) i1 x1 (fun p hp hm => ?_) fun l2 h2 x2 c2 i2 e2 => ?_
  · rcases f1 p hp with k | k
    · refine hideG fun G0 k0 => ?_; obtain ⟨q, hq, r⟩ := List.mem_map.mp k; refine k0 ?_; clear k0 G0
      exact off_frames B N hf sub q hq (by rw [r]; exact hm)
    · refine hideG fun G0 k0 => ?_; obtain ⟨o, ho, _⟩ := fun_there B₁.frames _ hm; refine k0 ?_; clear k0 G0
      rw [k] at ho; cases ho
  · have f2 : ∀ p ∈ l2, p.1 ∈ l.map (·.1) ∨ s.heap.get? p.1 = none := fun p hp => by
      have : p.1 ∈ l1.map (·.1) := by rw [← e2]; exact List.mem_map_of_mem hp
      refine hideG fun G0 k0 => ?_; obtain ⟨q, hq, r⟩ := List.mem_map.mp this; refine k0 ?_; clear k0 G0
      rw [← r]; exact f1 q hq
    have c3 := c1.trans c2 fun q hq => by
      refine hideG fun G0 k0 => ?_; obtain ⟨p, hp, r⟩ := List.mem_map.mp hq; refine k0 ?_; clear k0 G0
      rw [← r]; exact f1 p hp
    refine hideG fun G0 k0 => ?_; obtain ⟨g', S, B', F', N', ap'⟩ := after_call (rest := rest) B F N hf sub (rest_off ap fun q hq => List.mem_append_right _ hq) c3 i2 f2; refine k0 ?_; clear k0 G0
    exact h g' h2 l2 x2 S B' F' N' ap'

theorem leave_note (B : Below A₀ base outer g) (F : Fr g L s.heap m) (N : News g L s.heap (l ++ rest)) (ap : ∀ p ∈ l, ∀ q ∈ rest, p.1 ≠ q.1) (hA : A.frames = some (env :: outer)) (hf : env.frame = some L) (hke : env.scope.kind = .function) (hx : ExL e cls l)
    (h : ∀ g' h' l', ExF e cls .none l' → Slid (fra outer) g g' → Below A₀ base outer g' → Fr g' L h' m → News g' L h' (l' ++ rest) → (∀ p ∈ l', ∀ q ∈ rest, p.1 ≠ q.1) → Q () { s with heap := h' }) :
    wpAny M A (leaving env (.ref e)) Q E s := by
  unfold leaving
  exact wpAny_bind (try_note B F N ap hA hf hke hx h)

theorem flight_K {x : Value} {fr : Option Addr} (B : Below A₀ base outer g) (F : Fr g L s.heap m) (N : News g L s.heap (l ++ rest)) (ap : ∀ p ∈ l, ∀ q ∈ rest, p.1 ≠ q.1) (hf : env.frame = some L) (hx : ExF e cls x l)
    (h : ∀ g' h' l', ExF e cls (fr.elim .none fun f => rawInt f) l' → Slid (fra outer) g g' → Below A₀ base outer g' → Fr g' L h' m → News g' L h' (l' ++ rest) → (∀ p ∈ l', ∀ q ∈ rest, p.1 ≠ q.1) → Q () { s with heap := h' }) :
    wpAny M A (setFlight (.ref e) fr) Q E s := by
  have sub : ∀ p ∈ l, p ∈ l ++ rest := fun p hp => List.mem_append_left _ hp
  refine flight (fs := fra (env :: outer)) (ents_news B N sub) hx (off_frames B N hf sub) fun l1 h1 x1 c1 i1 e1 => ?_
  obtain ⟨g', S, B', F', N', ap'⟩ := after_call (rest := rest) B F N hf sub (rest_off ap fun q hq => List.mem_append_right _ hq) c1 i1 fun p hp => .inl (by rw [← e1]; exact List.mem_map_of_mem hp)
  exact h g' h1 l1 x1 S B' F' N' ap'

theorem leave_here (B : Below A₀ base outer g) (F : Fr g L s.heap m) (N : News g L s.heap (l ++ rest)) (ap : ∀ p ∈ l, ∀ q ∈ rest, p.1 ≠ q.1) (hf : env.frame = some L) (hx : ExF e cls (rawInt L) l)
    (h : ∀ g' h' l', ExF e cls .none l' → Slid (fra outer) g g' → Below A₀ base outer g' → Fr g' L h' m → News g' L h' (l' ++ rest) → (∀ p ∈ l', ∀ q ∈ rest, p.1 ≠ q.1) → Q () { s with heap := h' }) :
    wpAny M A (leaving env (.ref e)) Q E s := by
  unfold leaving
  exact wpAny_bind (note_here hf (ents_news B N fun p hp => List.mem_append_left _ hp) hx (flight_K (fr := none) B F N ap hf hx h))

theorem pass_on {α : Type} {what : String} {x : Value} {Q : α → Shared → Prop} (B : Below A₀ base outer g) (F : Fr g L s.heap m) (N : News g L s.heap (l ++ rest)) (ap : ∀ p ∈ l, ∀ q ∈ rest, p.1 ≠ q.1) (hf : env.frame = some L) (hx : ExF e cls x l)
    (h : ∀ g' h' l', ExF e cls (rawInt L) l' → Slid (fra outer) g g' → Below A₀ base outer g' → Fr g' L h' m → News g' L h' (l' ++ rest) → (∀ p ∈ l', ∀ q ∈ rest, p.1 ≠ q.1) → E (.ref e) { s with heap := h' }) :
    wpAny M A (PySem.passOn what (.ref e) env : Sem α) Q E s := by
  have hx' := hx
  refine hideG fun G0 k0 => ?_; obtain ⟨oe, vs, a0, T, oT, ts, c1, c2, c3, c4, c5, c6, c7, rfl⟩ := hx; refine k0 ?_; clear k0 G0
  unfold PySem.passOn
  refine wpAny_bind (wpAny_field (N (e, oe) (by simp)).1 c2 c4 ?_)
  rw [if_neg (show ¬ ((Value.ref T == Value.none) = true) from by simp)]
  rw [hf]
  exact wpAny_bind (flight_K (fr := some L) B F N ap hf hx' fun g' h' l' a b c d e' f' => wpAny_throw (h g' h' l' a b c d e' f'))
end

section
variable {M : Model} {K : Frag} {h : Heap}
theorem looks_match {e C Ci : Addr} {oe : Obj} {b : Bool} (X : K.In h) (he : h.get? e = some oe) (hc : oe.cls = .ref C)
    (k1 : peek K ⟨M.prog, M.w.params⟩ (isInstance (.ref Ci) (.type "tuple")) = some false) (k2 : peek K ⟨M.prog, M.w.params⟩ (isExcClass (.ref Ci)) = some true)
    (k3 : peek K ⟨M.prog, M.w.params⟩ (isSubtype (.ref C) (.ref Ci)) = some b) : Looks M h (excMatches (.ref e) (.ref Ci)) b := by
  intro A Q E s hs hq
  unfold excMatches
  refine wpAny_bind (Looks.of_peek X k1 _ _ _ _ hs ?_)
  rw [if_neg (by decide)]
  refine wpAny_bind (wpAny_pure ?_)
  simp only [List.forIn_cons, List.forIn_nil]
  refine wpAny_bind (wpAny_bind (wpAny_bind (Looks.of_peek X k2 _ _ _ _ hs ?_)))
  simp only [Bool.not_true, Bool.false_eq_true, if_false]
  refine wpAny_pure (wpAny_pure (wpAny_bind ?_))
  refine (show wpAny M A (typeOf (.ref e)) _ E s from ?_)
  unfold typeOf
  refine wpAny_bind (wpAny_loadPart (hs _ _ he) (wpAny_pure ?_))
  rw [hc]
  refine wpAny_bind (wpAny_bind (wpAny_bind (Looks.of_peek X k3 _ _ _ _ hs ?_)))
  cases b with
  | true => exact wpAny_pure (wpAny_pure (wpAny_pure hq))
  | false => exact wpAny_pure (wpAny_pure (wpAny_pure hq))
end
end Mine
end

section
open PySem PySem.Spec PySem.Calls PySem.W PyProof.Rows
set_option Elab.async false
set_option maxRecDepth 100000
set_option maxHeartbeats 8000000
namespace Mine

section
variable {prog : Program} {w : World} {A A₀ : Around} {E : Value → Shared → Prop} {s : Shared} {base g : Heap} {outer : List Env} {L e a C Ci : Addr} {m : Str → Option Value} {l rest : List (Addr × Obj)}
  {K : Frag} {p : Program} {loose : List Str} {mean : ExcName → Option Value} {mg mb : Str → Option Value} {name : Str} {scope : Scope} {cd : Value} {Q : Flow → Shared → Prop}

theorem handle_own {b : Bool} {cn : Str} {np pos : Pos} {b₀ : Stmt} {suite : List Stmt} {x : Value}
    (B : Below A₀ base outer g) (F : Fr g L s.heap m) (N : News g L s.heap (l ++ rest)) (ap : ∀ p ∈ l, ∀ q ∈ rest, p.1 ≠ q.1) (hx : ExF e (.ref C) x l) (X : K.In g) (T : Top p loose mean mg mb g)
    (hn : nsIn K mainGlobals cn = some (some (.ref Ci)))
    (k1 : peek K ⟨prog, w.params⟩ (isInstance (.ref Ci) (.type "tuple")) = some false) (k2 : peek K ⟨prog, w.params⟩ (isExcClass (.ref Ci)) = some true)
    (k3 : peek K ⟨prog, w.params⟩ (isSubtype (.ref C) (.ref Ci)) = some b)
    (hit : b = true → ∀ g' h' l', ExF e (.ref C) .none l' → Slid (fra outer) g g' → Below A₀ base outer g' → Fr g' L h' m → News g' L h' (l' ++ rest) → (∀ p ∈ l', ∀ q ∈ rest, p.1 ≠ q.1) →
      wpAny (model prog w) (A.mark (some (.ref e))) (execs (b₀ :: suite) (envOf name scope L a cd)) Q (fun _ _ => False) { s with heap := h' })
    (miss : b = false → ∀ g' h' l', ExF e (.ref C) (rawInt L) l' → Slid (fra outer) g g' → Below A₀ base outer g' → Fr g' L h' m → News g' L h' (l' ++ rest) → (∀ p ∈ l', ∀ q ∈ rest, p.1 ≠ q.1) → E (.ref e) { s with heap := h' })
    (hk : scope.kind = .function := by rfl) (hxk : (envOf name scope L a cd).kindOf cn = some .globalImplicit := by rfl) (hdb : (cn == ("__debug__" : Str)) = false := by decide) :
    wpAny (model prog w) A (handleBy (.ref e) (envOf name scope L a cd) [.ExceptHandler (some (.Name cn np)) none (b₀ :: suite) pos]) Q E s := by
  have hx' := hx
  refine hideG fun G0 k0 => ?_; obtain ⟨oe, vs, a0, T', oT, ts, c1, c2, c3, c4, c5, c6, c7, rfl⟩ := hx; refine k0 ?_; clear k0 G0
  have he : s.heap.get? e = some oe := (N (e, oe) (by simp)).1
  refine wpAny_handleBy_cons (codeAny_handlers_test (name_K F X (topRead_of T) hn ?_ hk hxk hdb)) (by intro q; cases q)
  refine (looks_match (M := model prog w) (X.keeps F.keep) he c1 k1 k2 k3).here ?_
  cases b with
  | true =>
    refine codeAny_handlers_suite (flight_K (fr := none) (env := envOf name scope L a cd) B F N ap rfl hx' fun g' h' l' x1 x2 x3 x4 x5 x6 => ?_)
    exact wpAny_mono (hit rfl g' h' l' x1 x2 x3 x4 x5 x6) (fun _ _ q => q) fun _ _ q => q.elim
  | false => exact wpAny_handleBy_nil (pass_on (env := envOf name scope L a cd) B F N ap rfl hx' fun g' h' l' x1 x2 x3 x4 x5 x6 => miss rfl g' h' l' x1 x2 x3 x4 x5 x6)

theorem raise_inst {x : Str} {np pos : Pos} (hh : A.handled = none) (B : Below A₀ base outer g) (F : Fr g L s.heap m) (N : News g L s.heap (l ++ rest)) (ap : ∀ p ∈ l, ∀ q ∈ rest, p.1 ≠ q.1) (hx : ExL e (.ref C) l) (X : K.In g)
    (k1 : peek K ⟨prog, w.params⟩ (isSubtype (.ref C) (.type "BaseException")) = some true) (k2 : peek K ⟨prog, w.params⟩ (typeOf (.ref C)) = some (.type "type")) (hv : m x = some (.ref e))
    (h : ∀ g' h' l', ExL e (.ref C) l' → Slid (fra outer) g g' → Below A₀ base outer g' → Fr g' L h' m → News g' L h' (l' ++ rest) → (∀ p ∈ l', ∀ q ∈ rest, p.1 ≠ q.1) → E (.ref e) { s with heap := h' })
    (hk : scope.kind = .function := by rfl) (hl : (envOf name scope L a cd).kindOf x = some .local := by rfl) (hd : (x == ("__debug__" : Str)) = false := by decide) :
    wpAny (model prog w) A (exec (.Raise (some (.Name x np)) none pos) (envOf name scope L a cd)) Q E s := by
  have obj : ∃ oe vs, oe.cls = .ref C ∧ oe.data = .fields vs ∧ s.heap.get? e = some oe := by
    rcases hx with ⟨oe, vs, a0, T', oT, ts, c1, c2, c3, c4, c5, c6, c7, rfl⟩ | ⟨oe, vs, a0, c1, c2, c3, c4, rfl⟩
    · exact ⟨oe, vs, c1, c2, (N (e, oe) (by simp)).1⟩
    · exact ⟨oe, vs, c1, c2, (N (e, oe) (by simp)).1⟩
  refine hideG fun G0 k0 => ?_; obtain ⟨oe, vs, c1, c2, he⟩ := obj; refine k0 ?_; clear k0 G0
  have Xs := X.keeps F.keep
  have ht : ∀ {Q : Value → Shared → Prop}, Q (.ref C) s → wpAny (model prog w) A (typeOf (.ref e)) Q E s := fun q => by
    unfold typeOf
    refine wpAny_bind (wpAny_loadPart he (wpAny_pure ?_))
    rw [c1]; exact q
  have hty : ∀ {Q : Bool → Shared → Prop}, Q false s → wpAny (model prog w) A (isType (.ref e)) Q E s := fun q => by
    unfold isType loadHead
    refine wpAny_bind (wpAny_loadPart he (wpAny_pure ?_))
    rw [c2]; exact q
  rw [arm_exec_Raise]
  show wpAny (model prog w) A (do standAt pos; raiseStmt (envOf name scope L a cd) (some (do let v ← eval (.Name x np) (envOf name scope L a cd); standAt pos; pure v)) none) Q E s
  refine wpAny_bind (wpAny_standAt ?_)
  unfold raiseStmt
  refine wpAny_bind (wpAny_bind (ld F hv (wpAny_bind (wpAny_standAt (wpAny_pure ?_))) hk hl hd))
  refine wpAny_bind (wpAny_pure ?_)
  refine wpAny_bind (wpAny_holding ?_)
  unfold excFromValue isExcClass
  refine wpAny_bind (wpAny_bind (hty ?_))
  rw [if_neg (by decide)]
  refine wpAny_pure ?_
  rw [if_neg (by decide)]
  unfold isInstance
  refine wpAny_bind (wpAny_bind (ht ((Looks.of_peek (M := model prog w) Xs k1).here ?_)))
  rw [if_pos rfl]
  refine wpAny_pure ?_
  refine wpAny_bind (hty ?_)
  rw [if_neg (by decide)]
  unfold raisedInstance
  refine wpAny_bind (wpAny_bind (ht (wpAny_bind ((Looks.of_peek (M := model prog w) Xs k2).here ?_))))
  rw [if_pos (by decide)]
  refine wpAny_pure ?_
  refine wpAny_bind ?_
  have sub : ∀ p ∈ l, p ∈ l ++ rest := fun p hp => List.mem_append_left _ hp
  refine flight_rest (fs := fra (envOf name scope L a cd :: outer)) (ents_news B N sub) hx (off_frames B N rfl sub) fun l1 h1 x1 z1 i1 e1 => ?_
  obtain ⟨g', S, B', F', N', ap'⟩ := after_call (env := envOf name scope L a cd) (rest := rest) B F N rfl sub (rest_off ap fun q hq => List.mem_append_right _ hq) z1 i1 fun p hp => .inl (by rw [← e1]; exact List.mem_map_of_mem hp)
  exact wpAny_raiseNew_none hh (h g' h1 l1 x1 S B' F' N' ap')
end
end Mine
end

section
open PySem PySem.Spec PySem.Calls PySem.W PyProof.Rows
set_option Elab.async false
set_option maxRecDepth 100000
set_option maxHeartbeats 8000000
namespace Mine
noncomputable abbrev PG : Program := PySem.Challenge.rw_ny0334_01.prog

noncomputable def clsN : List Nat := [179, 223, 242, 273, 261, 204, 192, 285, 297, 309]
noncomputable def clsA (j : Nat) : Addr := clsN.getD j 179
noncomputable def takesN (i j : Nat) : Bool := i == j || i == 0 || (i == 1 && [2, 3, 7, 8, 9].contains j)

theorem sub_tab (w : World) : ((List.range 10).all fun j => (List.range 10).all fun i => peek (k0.heap_1 w.params) ⟨PySem.Challenge.rw_ny0334_01.prog, w.params⟩ (isSubtype (.ref (clsA j)) (.ref (clsA i))) == some (takesN i j)) = true := by kernel_rfl
theorem exc_tab (w : World) : ((List.range 10).all fun i => peek (k0.heap_1 w.params) ⟨PySem.Challenge.rw_ny0334_01.prog, w.params⟩ (isInstance (.ref (clsA i)) (.type "tuple")) == some false && peek (k0.heap_1 w.params) ⟨PySem.Challenge.rw_ny0334_01.prog, w.params⟩ (isExcClass (.ref (clsA i))) == some true
   && peek (k0.heap_1 w.params) ⟨PySem.Challenge.rw_ny0334_01.prog, w.params⟩ (isSubtype (.ref (clsA i)) (.type "BaseException")) == some true && peek (k0.heap_1 w.params) ⟨PySem.Challenge.rw_ny0334_01.prog, w.params⟩ (typeOf (.ref (clsA i))) == some (.type "type")) = true := by kernel_rfl
theorem sub_at (w : World) {i j : Nat} (hi : i < 10) (hj : j < 10) : peek (k0.heap_1 w.params) ⟨PySem.Challenge.rw_ny0334_01.prog, w.params⟩ (isSubtype (.ref (clsA j)) (.ref (clsA i))) = some (takesN i j) := by
  have := List.all_eq_true.mp (List.all_eq_true.mp (sub_tab w) j (List.mem_range.mpr hj)) i (List.mem_range.mpr hi)
  exact eq_of_beq this
theorem exc_at (w : World) {i : Nat} (hi : i < 10) : peek (k0.heap_1 w.params) ⟨PySem.Challenge.rw_ny0334_01.prog, w.params⟩ (isInstance (.ref (clsA i)) (.type "tuple")) = some false ∧ peek (k0.heap_1 w.params) ⟨PySem.Challenge.rw_ny0334_01.prog, w.params⟩ (isExcClass (.ref (clsA i))) = some true
   ∧ peek (k0.heap_1 w.params) ⟨PySem.Challenge.rw_ny0334_01.prog, w.params⟩ (isSubtype (.ref (clsA i)) (.type "BaseException")) = some true ∧ peek (k0.heap_1 w.params) ⟨PySem.Challenge.rw_ny0334_01.prog, w.params⟩ (typeOf (.ref (clsA i))) = some (.type "type") := by
  have := List.all_eq_true.mp (exc_tab w) i (List.mem_range.mpr hi)
  simp only [Bool.and_eq_true, beq_iff_eq] at this
  exact ⟨this.1.1.1, this.1.1.2, this.1.2, this.2⟩

end Mine
end

section
open PySem PySem.Spec PySem.Calls PySem.W PyProof.Rows
set_option Elab.async false
set_option maxRecDepth 100000
set_option maxHeartbeats 8000000
namespace Mine

noncomputable def taker (arms : List Int) (j : Nat) : Option Int := arms.find? fun a => takesN a.toNat j
noncomputable def TkPost (la : Addr) (ola : Obj) (f : Addr) (j : Nat) (r : Option Int) (v : Value) (led : List (Addr × Obj)) : Prop := ∃ a t l', r = some a ∧ v = .int a t ∧ led = (la, ola) :: l' ∧ ExL f (.ref (clsA j)) l'
noncomputable def TkRs (la : Addr) (ola : Obj) (f : Addr) (j : Nat) (r : Option Int) (e : Value) (led : List (Addr × Obj)) : Prop := r = none ∧ e = .ref f ∧ ∃ l', led = (la, ola) :: l' ∧ ExL f (.ref (clsA j)) l'

theorem news_sub {g h : Heap} {L : Addr} {a b : List (Addr × Obj)} (N : News g L h a) (hs : ∀ q ∈ b, q ∈ a) : News g L h b := fun p hp => N p (hs p hp)

theorem bodyE_of {g g' h : Heap} {L : Addr} {envs : List Env} {s : Shared} {rs : Value → List (Addr × Obj) → Prop} {e : Value} {led : List (Addr × Obj)} {tk : Nat} {m : Str → Option Value}
    (S : Slid (fra envs) g g') (F : Fr g' L h m) (N : News g' L h led) (hr : rs e led) : EndE g L envs s rs e { s with heap := h, toks := tk } := ⟨g', led, h, tk, rfl, S, F.keep, N, hr⟩

theorem ExF.fields {e : Addr} {cls fl : Value} {l : List (Addr × Obj)} (hx : ExF e cls fl l) : ∀ q ∈ l, ∃ vs, q.2.data = .fields vs := by
  refine hideG fun G0 k0 => ?_; obtain ⟨oe, vs, a0, T, oT, ts, c1, c2, c3, c4, c5, c6, c7, eq1⟩ := hx; refine k0 ?_; clear k0 G0; subst eq1
  intro q hq
  rcases List.mem_cons.mp hq with rfl | hq
  · exact ⟨vs, c2⟩
  · rw [List.mem_singleton.mp hq]; exact ⟨ts, c6⟩
theorem ExL.fields {e : Addr} {cls : Value} {l : List (Addr × Obj)} (hx : ExL e cls l) : ∀ q ∈ l, ∃ vs, q.2.data = .fields vs := by
  rcases hx with hx | ⟨oe, vs, a0, c1, c2, c3, c4, rfl⟩
  · exact hx.fields
  · intro q hq
    rw [List.mem_singleton.mp hq]; exact ⟨vs, c2⟩
theorem ex_ne {g h : Heap} {L f lr : Addr} {cls : Value} {olr : Obj} {l news : List (Addr × Obj)} (hx : ExL f cls l) (N : News g L h news) (m3 : ∀ q ∈ l, q ∈ news) (m1 : (lr, olr) ∈ news) (hd : ∀ vs, olr.data ≠ .fields vs) : ∀ q ∈ l, q.1 ≠ lr := fun q hq e => by
  obtain ⟨vs, hv⟩ := hx.fields q hq
  have a := (N q (m3 q hq)).1
  have b := (N _ m1).1
  rw [e] at a
  have c : q.2 = olr := Option.some.inj (a.symm.trans b)
  rw [c] at hv
  exact hd vs hv

section
variable {w : World} {base g h : Heap} {p : Program} {loose : List Str} {mean : ExcName → Option Value} {mg mb : Str → Option Value} {dp un : Nat} {gd : Option (List Code)} {envs : List Env} {s : Shared} {L la lr f : Addr} {ola olr : Obj} {l news : List (Addr × Obj)} {m : Str → Option Value} {tk d j i : Nat} {as : List Int}
  {scope : Scope} {cn : Str} {np pos cp rp : Pos} {kk : Nat}

theorem arm_step (C0 : Con w base 325 [.ref lr, .ref f] d ((lr, olr) :: l) (TkPost lr olr f j (taker as j)) (TkRs lr olr f j (taker as j))) {iz : Int} {as' : List Int} {Qk : Flow → Shared → Prop} {Q0 : Value → Shared → Prop} {Ek : Value → Shared → Prop} (hQ0 : ∀ v s', BodyQ g L envs s (TkPost la ola f j (taker as' j)) (.ret v) s' → Q0 v s') (hQk : ∀ v s', BodyQ g L envs s (TkPost la ola f j (taker as' j)) (.ret v) s' → Qk (.ret v) s') (hEk : ∀ e s', BodyE w ((Ar dp envs gd un).deeper (envOf (Str.ofString "_law_taker") scope L 325 (.ref 324))) (envOf (Str.ofString "_law_taker") scope L 325 (.ref 324)) g L envs s (TkRs la ola f j (taker as' j)) e s' → Ek e s') (hi : i < 10) (hj : j < 10) (hz : iz = (i : Int)) (ha : as' = as ++ [iz])
    (B : Below (Ar dp envs gd un) base envs g) (F : Fr g L h m) (X : (k0.heap_1 w.params).In base) (T : Top p loose mean mg mb base) (N : News g L h news)
    (m1 : (lr, olr) ∈ news) (m2 : (la, ola) ∈ news) (m3 : ∀ q ∈ l, q ∈ news) (n1 : la ≠ lr) (hx : ExL f (.ref (clsA j)) l) (hd : dp + 1 + d < recursionLimit) (hu : un + 3 + 100 * d ≤ 5000)
    (hn : nsIn (k0.heap_1 w.params) mainGlobals cn = some (some (.ref (clsA i)))) (hda : ∀ vs, ola.data ≠ .fields vs)
    (hk : scope.kind = .function) (hxk : (envOf (Str.ofString "_law_taker") scope L 325 (.ref 324)).kindOf cn = some .globalImplicit) (hdb : (cn == ("__debug__" : Str)) = false) :
    wpAny (model PySem.Challenge.rw_ny0334_01.prog w) ((Ar dp envs gd un).deeper (envOf (Str.ofString "_law_taker") scope L 325 (.ref 324))) (call (.ref 325) [.ref lr, .ref f])
      Q0
      (fun e s₁ => wpAny (model PySem.Challenge.rw_ny0334_01.prog w) ((Ar dp envs gd un).deeper (envOf (Str.ofString "_law_taker") scope L 325 (.ref 324))) (noteFrame e (envOf (Str.ofString "_law_taker") scope L 325 (.ref 324)))
        (fun _ s₂ => wpAny (model PySem.Challenge.rw_ny0334_01.prog w) ((Ar dp envs gd un).deeper (envOf (Str.ofString "_law_taker") scope L 325 (.ref 324))) (setFlight e none)
          (fun _ s₃ => wpAny (model PySem.Challenge.rw_ny0334_01.prog w) ((Ar dp envs gd un).deeper (envOf (Str.ofString "_law_taker") scope L 325 (.ref 324))) (handleBy e (envOf (Str.ofString "_law_taker") scope L 325 (.ref 324)) [.ExceptHandler (some (.Name cn np)) none [.Return (some (.Constant (.int iz) kk cp)) rp] pos])
            Qk
            Ek s₃)
          Ek s₂)
        Ek s₁)
      { s with heap := h, toks := tk } := by
  subst hz ha
  have n2 := ex_ne hx N m3 m2 hda
  have sub : ∀ q ∈ (lr, olr) :: l, q ∈ news := fun q hq => by
    rcases List.mem_cons.mp hq with rfl | hq
    · exact m1
    · exact m3 q hq
  refine Con.use (env := envOf (Str.ofString "_law_taker") scope L 325 (.ref 324)) (rest := [(la, ola)]) C0 B F N rfl hk hd hu sub (fun q hq => ?_) ?_ ?_
  · rw [List.mem_singleton.mp hq]
    refine ⟨m2, fun hm => ?_⟩
    rcases List.mem_cons.mp hm with e | hm
    · exact n1 e
    · refine hideG fun G0 k0 => ?_; obtain ⟨x, hx, e⟩ := List.mem_map.mp hm; refine k0 ?_; clear k0 G0
      exact n2 x hx e
  · intro v led g1 h1 tk1 hP1 S B1 F1 N1 ap; refine hideG fun G0 k0 => ?_; obtain ⟨a, t, l', r1, eq1, eq2, x1⟩ := hP1; refine k0 ?_; clear k0 G0; subst eq1; subst eq2
    refine hQ0 _ _ ⟨g1, m, (la, ola) :: l', h1, tk1, rfl, S, F1, news_sub N1 fun q hq => ?_, a, t, l', ?_, rfl, rfl, x1⟩
    · rcases List.mem_cons.mp hq with rfl | hq
      · simp
      · simp [hq]
    · unfold taker at r1 ⊢
      rw [List.find?_append, r1]; rfl
  · intro e led g1 h1 tk1 hP1 S B1 F1 N1 ap; refine hideG fun G0 k0 => ?_; obtain ⟨r1, eq1, l', eq2, x1⟩ := hP1; refine k0 ?_; clear k0 G0; subst eq1; subst eq2
    have N2 : News g1 L h1 (l' ++ [(la, ola)]) := news_sub N1 fun q hq => by
      rcases List.mem_append.mp hq with hq | hq
      · simp [hq]
      · simp [List.mem_singleton.mp hq]
    have ap2 : ∀ q ∈ l', ∀ r ∈ [(la, ola)], q.1 ≠ r.1 := fun q hq r hr => ap q (List.mem_cons_of_mem _ hq) r hr
    have fnd : taker (as ++ [(i : Int)]) j = if takesN i j then some (i : Int) else none := by
      unfold taker at r1 ⊢
      rw [List.find?_append, r1]
      simp only [Option.none_or, List.find?_cons, List.find?_nil, Int.toNat_natCast]
      cases takesN i j <;> rfl
    refine try_note (s := { s with heap := h1, toks := tk1 }) B1 F1 N2 ap2 rfl rfl hk x1 fun g2 h2 l2 x2 S2 B2 F2 N2 ap2 => ?_
    refine hideG fun G0 k0 => ?_; obtain ⟨k1, k2, k3, k4⟩ := exc_at w hi; refine k0 ?_; clear k0 G0
    refine handle_own (s := { s with heap := h2, toks := tk1 }) (b := takesN i j) B2 F2 N2 ap2 x2 (X.keeps B2.stays) (T.keeps B2.stays) hn k1 k2 (sub_at w hi hj) (fun hb g3 h3 l3 x3 S3 B3 F3 N3 ap3 => ?_) (fun hb g3 h3 l3 x3 S3 B3 F3 N3 ap3 => ?_) hk hxk hdb
    · refine wpAny_execs_cons (wpAny_Return_some (wpAny_Constant_int ?_))
      refine hQk _ _ ⟨g3, m, (la, ola) :: l3, h3, _, rfl, (S.trans S2).trans S3, F3, news_sub N3 fun q hq => ?_, (i : Int), _, l3, ?_, rfl, rfl, .inl x3⟩
      · rcases List.mem_cons.mp hq with rfl | hq
        · simp
        · simp [hq]
      · rw [fnd, hb]; rfl
    · refine hEk _ _ ?_
      refine leave_here (s := { s with heap := h3, toks := tk1 }) B3 F3 N3 ap3 rfl x3 fun g4 h4 l4 x4 S4 B4 F4 N4 ap4 => ?_
      refine bodyE_of (((S.trans S2).trans S3).trans S4) F4 (news_sub N4 (b := (la, ola) :: l4) fun q hq => ?_) ⟨?_, rfl, l4, rfl, .inl x4⟩
      · rcases List.mem_cons.mp hq with rfl | hq
        · simp
        · simp [hq]
      · rw [fnd, hb]; rfl

theorem tk0_end {Q : Flow → Shared → Prop} (hj : j < 10)
    (B : Below (Ar dp envs gd un) base envs g) (F : Fr g L h m) (N : News g L h news) (X : (k0.heap_1 w.params).In base)
    (m2 : (la, ola) ∈ news) (m3 : ∀ q ∈ l, q ∈ news) (hx : ExL f (.ref (clsA j)) l) (hv : m (Str.ofString "fault") = some (.ref f)) (hda : ∀ vs, ola.data ≠ .fields vs)
    (hk : scope.kind = .function) (hl : (envOf (Str.ofString "_law_taker") scope L 325 (.ref 324)).kindOf (Str.ofString "fault") = some .local) :
    wpAny (model PySem.Challenge.rw_ny0334_01.prog w) ((Ar dp envs gd un).deeper (envOf (Str.ofString "_law_taker") scope L 325 (.ref 324))) (exec (.Raise (some (.Name (Str.ofString "fault") np)) none pos) (envOf (Str.ofString "_law_taker") scope L 325 (.ref 324))) Q
      (BodyE w ((Ar dp envs gd un).deeper (envOf (Str.ofString "_law_taker") scope L 325 (.ref 324))) (envOf (Str.ofString "_law_taker") scope L 325 (.ref 324)) g L envs s (TkRs la ola f j (taker [] j))) { s with heap := h, toks := tk } := by
  have n2 := ex_ne hx N m3 m2 hda
  have N1 : News g L h (l ++ [(la, ola)]) := news_sub N fun q hq => by
    rcases List.mem_append.mp hq with hq | hq
    · exact m3 q hq
    · rw [List.mem_singleton.mp hq]; exact m2
  have ap : ∀ q ∈ l, ∀ r ∈ [(la, ola)], q.1 ≠ r.1 := fun q hq r hr => by rw [List.mem_singleton.mp hr]; exact n2 q hq
  refine hideG fun G0 k0 => ?_; obtain ⟨k1, k2, k3, k4⟩ := exc_at w hj; refine k0 ?_; clear k0 G0
  refine raise_inst (s := { s with heap := h, toks := tk }) rfl B F N1 ap hx (X.keeps B.stays) k3 k4 hv (fun g1 h1 l1 x1 S1 B1 F1 N1 ap1 => ?_) hk hl
  refine leave_note (s := { s with heap := h1, toks := tk }) B1 F1 N1 ap1 rfl rfl hk x1 fun g2 h2 l2 x2 S2 B2 F2 N2 ap2 => ?_
  refine bodyE_of (S1.trans S2) F2 (news_sub N2 (b := (la, ola) :: l2) fun q hq => ?_) ⟨rfl, rfl, l2, rfl, .inl x2⟩
  rcases List.mem_cons.mp hq with rfl | hq
  · simp
  · simp [hq]
end
end Mine
end

section
open PySem PySem.W PyProof.Rows
set_option Elab.async false
set_option linter.unusedVariables false
namespace Mine
theorem all4 {P : Nat → Prop} (h0 : P 0) (h1 : P 1) (h2 : P 2) (h3 : P 3) : ∀ p < 4, P p
  | 0, _ => h0
  | 1, _ => h1
  | 2, _ => h2
  | 3, _ => h3
  | n + 4, h => absurd h (Nat.not_lt.mpr (Nat.le_add_left 4 n))
theorem all10 {P : Nat → Prop} (h0 : P 0) (h1 : P 1) (h2 : P 2) (h3 : P 3) (h4 : P 4) (h5 : P 5) (h6 : P 6) (h7 : P 7) (h8 : P 8) (h9 : P 9) (p : Nat) (h : p < 10) : P p := by
  rcases Nat.lt_or_ge p 4 with h' | h'
  · exact all4 h0 h1 h2 h3 p h'
  · obtain ⟨q, rfl⟩ := Nat.le.dest h'
    rcases Nat.lt_or_ge q 4 with h2' | h2'
    · exact all4 (P := fun q => P (4 + q)) h4 h5 h6 h7 q h2'
    · obtain ⟨r, rfl⟩ := Nat.le.dest h2'
      have hr : r < 2 := by omega
      match r, hr with
      | 0, _ => exact h8
      | 1, _ => exact h9
theorem nine {a : Int} (b : 0 ≤ a ∧ a ≤ 9) : ¬ a = 0 → ¬ a = 1 → ¬ a = 2 → ¬ a = 3 → ¬ a = 4 → ¬ a = 5 → ¬ a = 6 → ¬ a = 7 → ¬ a = 8 → a = 9 := by
  obtain ⟨j, rfl⟩ := Int.eq_ofNat_of_zero_le b.1
  have hj : j < 10 := by omega
  clear b
  revert j
  refine all10 ?_ ?_ ?_ ?_ ?_ ?_ ?_ ?_ ?_ ?_ <;> intros
  · exact absurd rfl ‹¬ ((0 : Nat) : Int) = 0›
  · exact absurd rfl ‹¬ ((1 : Nat) : Int) = 1›
  · exact absurd rfl ‹¬ ((2 : Nat) : Int) = 2›
  · exact absurd rfl ‹¬ ((3 : Nat) : Int) = 3›
  · exact absurd rfl ‹¬ ((4 : Nat) : Int) = 4›
  · exact absurd rfl ‹¬ ((5 : Nat) : Int) = 5›
  · exact absurd rfl ‹¬ ((6 : Nat) : Int) = 6›
  · exact absurd rfl ‹¬ ((7 : Nat) : Int) = 7›
  · exact absurd rfl ‹¬ ((8 : Nat) : Int) = 8›
  · rfl
theorem or4 : ∀ p < 4, p = 0 ∨ p = 1 ∨ p = 2 ∨ p = 3 := all4 (P := fun p => p = 0 ∨ p = 1 ∨ p = 2 ∨ p = 3) (Or.inl rfl) (Or.inr (Or.inl rfl)) (Or.inr (Or.inr (Or.inl rfl))) (Or.inr (Or.inr (Or.inr rfl)))
theorem or10 (p : Nat) : p < 10 → p = 0 ∨ p = 1 ∨ p = 2 ∨ p = 3 ∨ p = 4 ∨ p = 5 ∨ p = 6 ∨ p = 7 ∨ p = 8 ∨ p = 9 := all10 (P := fun p => p = 0 ∨ p = 1 ∨ p = 2 ∨ p = 3 ∨ p = 4 ∨ p = 5 ∨ p = 6 ∨ p = 7 ∨ p = 8 ∨ p = 9) (Or.inl rfl) (Or.inr (Or.inl rfl)) (Or.inr (Or.inr (Or.inl rfl))) (Or.inr (Or.inr (Or.inr (Or.inl rfl)))) (Or.inr (Or.inr (Or.inr (Or.inr (Or.inl rfl))))) (Or.inr (Or.inr (Or.inr (Or.inr (Or.inr (Or.inl rfl)))))) (Or.inr (Or.inr (Or.inr (Or.inr (Or.inr (Or.inr (Or.inl rfl))))))) (Or.inr (Or.inr (Or.inr (Or.inr (Or.inr (Or.inr (Or.inr (Or.inl rfl)))))))) (Or.inr (Or.inr (Or.inr (Or.inr (Or.inr (Or.inr (Or.inr (Or.inr (Or.inl rfl))))))))) (Or.inr (Or.inr (Or.inr (Or.inr (Or.inr (Or.inr (Or.inr (Or.inr (Or.inr rfl))))))))) p
theorem sub_step {n i : Nat} (h : i < n) : n - (i + 1) < n - i := Nat.sub_lt_sub_left h (Nat.lt_succ_self i)
theorem sub_step1 {n i : Nat} (h : i < n) : n + 1 - (i + 1) < n + 1 - i := sub_step (Nat.lt_succ_of_lt h)
theorem or4i {z : Int} (h : 0 ≤ z ∧ z ≤ 3) : z = 0 ∨ z = 1 ∨ z = 2 ∨ z = 3 := by omega
theorem zn (i : Nat) : ((0 : Int) + (i : Int)).toNat = i := by rw [Int.zero_add]; rfl
theorem dp_le {dp a b m : Nat} (h : dp + b < m) (hab : a ≤ b) : dp + a < m := by omega
theorem un_le {un a b m : Nat} (h : un + b ≤ m) (hab : a ≤ b) : un + a ≤ m := by omega
end Mine
end

section
open PySem PySem.Spec PySem.Calls PySem.W PyProof.Rows
set_option Elab.async false
set_option maxRecDepth 100000
set_option maxHeartbeats 8000000
namespace Mine

section
variable {w : World} {A₀ : Around} {dp un : Nat} {gd : Option (List Code)} {base h₀ : Heap} {envs outer : List Env} {L : Addr} {m : Str → Option Value} {s : Shared} {news rest : List (Addr × Obj)} {Q E : Value → Shared → Prop}
  {f : Addr} {vs : List Value} {d : Nat} {pre : List (Addr × Obj)} {post rs : Value → List (Addr × Obj) → Prop}

end

inductive GoesF (outer : List Env) (g : Heap) (L : Addr) (f : Heap → Nat → Shared) (J : (Str → Option Value) → List (Addr × Obj) → Prop) (s' : Shared) : Prop
  | mk (g' : Heap) (m' : Str → Option Value) (led : List (Addr × Obj)) (h' : Heap) (tk' : Nat) (e : s' = f h' tk') (S : Slid (fra outer) g g') (F : Fr g' L h' m') (N : News g' L h' led) (j : J m' led) : GoesF outer g L f J s'
noncomputable def Goes (outer : List Env) (g : Heap) (L : Addr) (s : Shared) (J : (Str → Option Value) → List (Addr × Obj) → Prop) (s' : Shared) : Prop := GoesF outer g L (fun h t => { s with heap := h, toks := t }) J s'

inductive ForS (A₀ : Around) (base : Heap) (outer : List Env) (g : Heap) (LL : Addr) (s : Shared) (n : Nat) (J : Nat → (Str → Option Value) → List (Addr × Obj) → Prop) (I : Addr) (St : Nat → Heap → Prop) (k : Nat) (s' : Shared) : Prop
  | mk (i : Nat) (g' : Heap) (m' : Str → Option Value) (led : List (Addr × Obj)) (o : Obj) (h : Heap) (tk : Nat) (e : s' = { s with heap := h, toks := tk }) (ek : k = n + 1 - i) (hi : i ≤ n) (j : J i m' led) (S : Slid (fra outer) g g') (B : Below A₀ base outer g') (F : Fr g' LL h m') (N : News g' LL h ((I, o) :: led)) (st : St i h) : ForS A₀ base outer g LL s n J I St k s'
section
variable {prog : Program} {w : World} {A A₀ : Around} {base g : Heap} {outer : List Env} {L I : Addr} {m : Str → Option Value} {s : Shared} {news S : List (Addr × Obj)} {fp : List Addr} {n : Nat} {P : Nat → Value → Prop} {St : Nat → Heap → Prop} {env : Env} {x : Str} {px : Pos} {body : List Stmt} {R : Result → Shared → Prop}

theorem step_iter (W : Walks prog w A I fp [I] n P St) (hth : ∀ i h, St i h → ∃ o, h.get? I = some o) {i : Nat} {led : List (Addr × Obj)} {o : Obj} (F : Fr g L s.heap m) (N : News g L s.heap ((I, o) :: led)) (hI : ∀ q ∈ led, q.1 ≠ I)
    {Q : Option Value → Shared → Prop} {E : Value → Shared → Prop} (hi : i < n) (st : St i s.heap)
    (k : ∀ v h' tk o', P i v → St (i + 1) h' → Fr g L h' m → News g L h' ((I, o') :: led) → Q (some v) { s with heap := h', toks := tk }) : wpAny (model prog w) A (pyNext (.ref I)) Q E s := by
  refine W.item i s Q E hi st fun v h' tk hP st' kp => ?_
  obtain ⟨o', ho'⟩ := hth _ _ st'
  obtain ⟨oL, es, ep, hL, hLr⟩ := id F.ns
  have nI := N (I, o) (.head _)
  have LI : L ≠ I := fun e => nI.2.1 e.symm
  refine k v h' tk o' hP st' ⟨⟨oL, es, ep, kp L oL (by simpa using LI) hL, hLr⟩, fun b ob e => kp b ob (fun hm => ?_) (F.keep b ob e), F.above⟩ fun q hq => ?_
  · have : b = I := by simpa using hm
    rw [this, nI.2.2] at e; cases e
  · rcases List.mem_cons.mp hq with rfl | hq
    · exact ⟨ho', nI.2⟩
    · have := N q (List.mem_cons_of_mem _ hq)
      exact ⟨kp _ _ (by simpa using hI q hq) this.1, this.2⟩
theorem stop_iter (W : Walks prog w A I fp [I] n P St) {led : List (Addr × Obj)} {o : Obj} (F : Fr g L s.heap m) (N : News g L s.heap ((I, o) :: led)) (hI : ∀ q ∈ led, q.1 ≠ I)
    {Q : Option Value → Shared → Prop} {E : Value → Shared → Prop} (st : St n s.heap)
    (k : ∀ h' tk, Fr g L h' m → News g L h' led → Q none { s with heap := h', toks := tk }) : wpAny (model prog w) A (pyNext (.ref I)) Q E s := by
  refine W.done s Q E st fun h' tk kp => ?_
  obtain ⟨oL, es, ep, hL, hLr⟩ := id F.ns
  have nI := N (I, o) (.head _)
  have LI : L ≠ I := fun e => nI.2.1 e.symm
  refine k h' tk ⟨⟨oL, es, ep, kp L oL (by simpa using LI) hL, hLr⟩, fun b ob e => kp b ob (fun hm => ?_) (F.keep b ob e), F.above⟩ fun q hq => ?_
  · have : b = I := by simpa using hm
    rw [this, nI.2.2] at e; cases e
  · have := N q (List.mem_cons_of_mem _ hq)
    exact ⟨kp _ _ (by simpa using hI q hq) this.1, this.2⟩

theorem for_W (W : Walks prog w A I fp [I] n P St) (hth : ∀ i h, St i h → ∃ o, h.get? I = some o) (hfp : ∀ b ∈ fp, b = I ∨ ∃ o, (b, o) ∈ S)
    (J : Nat → (Str → Option Value) → List (Addr × Obj) → Prop) (hS : ∀ i m' led, J i m' led → ∀ q ∈ S, q ∈ led) (hJI : ∀ i m' led, J i m' led → ∀ q ∈ led, q.1 ≠ I)
    (B : Below A₀ base outer g) (F : Fr g L s.heap m) {o₀ : Obj} (N : News g L s.heap ((I, o₀) :: news)) (hst : St 0 s.heap) (j0 : J 0 m news)
    (turn : ∀ i v g' m' led o h tk, i < n → P i v → J i m' led → Slid (fra outer) g g' → Below A₀ base outer g' → Fr g' L h (fun y => if y = x then some v else m' y) → News g' L h ((I, o) :: led) →
      wpAny (model prog w) A (execs body env) (fun f s₃ => match f with
        | .next | .cont => Goes outer g' L s (fun m'' l => ∃ led', l = (I, o) :: led' ∧ J (i + 1) m'' led') s₃
        | .brk => R (.ok .next) s₃
        | .ret v => R (.ok (.ret v)) s₃) (notedBy (model prog w) A env fun e s' => R (.error e) s') { s with heap := h, toks := tk })
    (fin : ∀ g' m' led h tk, J n m' led → Slid (fra outer) g g' → Below A₀ base outer g' → Fr g' L h m' → News g' L h led → R (.ok .next) { s with heap := h, toks := tk })
    (hL : env.locals = L) (hx : env.kindOf x = some .local) (hp : (env.scope.kind == .class || (env.scope.kind == .module && env.locals != env.globals)) = false) :
    codeAny (model prog w) A (.forLoop (.Name x px) (.ref I) body [] env) R s := by
  subst hL
  refine codeAny_forLoop (ForS A₀ base outer g env.locals s n J I St) ?_ (n + 1)
    ⟨0, g, m, news, o₀, s.heap, s.toks, rfl, rfl, Nat.zero_le _, j0, Slid.refl .., B, F, N, hst⟩
  rintro k s' ⟨i, g', m', led, o, h, tk, rfl, rfl, hi, hj, Sl, B', F', N', st⟩
  by_cases hlt : i < n
  · refine step_iter (s := { s with heap := h, toks := tk }) W hth F' N' (hJI _ _ _ hj) hlt st fun v h1 tk1 o1 hP st1 F1 N1 => ?_
    refine wpAny_assign_Name (wpAny_storeName_local hx F1.ns (fun h2 hn2 hs2 => ?_) hp)
    have F2 : Fr g' env.locals h2 (fun y => if y = x then some v else m' y) := F1.set hn2 hs2
    have N2 : News g' env.locals h2 ((I, o1) :: led) := N1.set hs2
    have st2 : St (i + 1) h2 := W.frame _ _ _ st1 fun b hb ob e => by
      rcases hfp b hb with rfl | ⟨o', hm⟩
      · have := (N2 (b, o1) (.head _)).1
        have e1 := (N1 (b, o1) (.head _)).1
        rw [e1] at e; cases e
        exact this
      · have hm' := hS _ _ _ hj _ hm
        have := (N2 (b, o') (List.mem_cons_of_mem _ hm')).1
        have e1 := (N1 (b, o') (List.mem_cons_of_mem _ hm')).1
        rw [e1] at e; cases e
        exact this
    refine wpAny_mono (turn i v g' m' led o1 h2 (tk1 + 1) hlt hP hj Sl B' F2 N2) (fun f s₃ hf => ?_) fun _ _ q => q
    have go : Goes outer g' env.locals s (fun m'' l => ∃ led', l = (I, o1) :: led' ∧ J (i + 1) m'' led') s₃ → ∃ k', k' < n + 1 - i ∧ ForS A₀ base outer g env.locals s n J I St k' s₃ := by
      rintro ⟨g3, m3, l3, h3, tk3, rfl, S3, F3, N3, led3, rfl, j3⟩
      refine ⟨n + 1 - (i + 1), sub_step1 (by assumption), i + 1, g3, m3, led3, o1, h3, tk3, rfl, rfl, hlt, j3, Sl.trans S3, below_slid B' S3, F3, N3, W.frame _ _ _ st2 fun b hb ob e => ?_⟩
      rcases hfp b hb with rfl | ⟨o', hm⟩
      · have := (N3 (b, o1) (.head _)).1
        have e1 := (N2 (b, o1) (.head _)).1
        rw [e1] at e; cases e
        exact this
      · have := (N3 (b, o') (List.mem_cons_of_mem _ (hS _ _ _ j3 _ hm))).1
        have e1 := (N2 (b, o') (List.mem_cons_of_mem _ (hS _ _ _ hj _ hm))).1
        rw [e1] at e; cases e
        exact this
    cases f with
    | next => exact go hf
    | cont => exact go hf
    | brk => exact hf
    | ret v => exact hf
  · have hin : i = n := by omega
    subst hin
    exact stop_iter (s := { s with heap := h, toks := tk }) W F' N' (hJI _ _ _ hj) st fun h1 tk1 F1 N1 => wpAny_execs_nil (fin g' m' led h1 tk1 hj Sl B' F1 N1)
end
end Mine
end

section
open PySem PySem.Spec PySem.Calls PySem.W PyProof.Rows
set_option Elab.async false
set_option maxRecDepth 100000
set_option maxHeartbeats 8000000
namespace Mine

noncomputable abbrev lst (ys : List Value) : Obj := W.listOf ys.toArray ys.length
theorem lst_snoc (ys : List Value) (y : Value) : W.listOf (ys.toArray.push y) (ys.length + 1) = lst (ys ++ [y]) := by
  show W.listOf _ _ = W.listOf _ _
  simp

noncomputable abbrev testsOf (ifs : List PySem.Expr) (env : Env) : Sem Bool := forIn ifs true fun c r => if r = true then do let ok ← isTrue c env (eval c env); pure (ForInStep.yield ok) else pure (ForInStep.yield r)

section
variable {prog : Program} {w : World} {A A₀ : Around} {base g : Heap} {envs : List Env} {C I D : Addr} {m : Str → Option Value} {s : Shared} {news S : List (Addr × Obj)} {fp : List Addr} {n : Nat} {P : Nat → Value → Prop} {St : Nat → Heap → Prop} {cenv : Env} {x : Str} {px : Pos} {elt iter : PySem.Expr} {ifs : List PySem.Expr} {scope : Scope} {pos : Pos} {R : Result → Shared → Prop}

theorem st_keep (W : Walks prog w A I fp [I] n P St) (hfp : ∀ b ∈ fp, b = I ∨ ∃ o, (b, o) ∈ S) {i : Nat} {h h' : Heap} {o : Obj} (st : St i h) (e1 : h.get? I = some o) (e2 : h'.get? I = some o) (e3 : ∀ q ∈ S, h.get? q.1 = some q.2 ∧ h'.get? q.1 = some q.2) : St i h' :=
  W.frame _ _ _ st fun b hb ob e => by
    rcases hfp b hb with rfl | ⟨o', hm⟩
    · rw [e1] at e; cases e; exact e2
    · have := e3 _ hm
      rw [this.1] at e; cases e; exact this.2

end
end Mine
end

section
open PySem PySem.Spec PySem.Calls PySem.W PyProof.Rows PyProof.Rows.LCg
set_option Elab.async false
set_option maxRecDepth 100000
set_option maxHeartbeats 8000000
namespace Mine

noncomputable abbrev MG (w : World) : Model := model PySem.Challenge.rw_ny0334_01.prog w
noncomputable abbrev Off (I C D : Addr) (led : List (Addr × Obj)) : Prop := ∀ q ∈ led, q.1 ≠ I ∧ q.1 ≠ C ∧ q.1 ≠ D

inductive TurnE (outer : List Env) (g : Heap) (L : Addr) (m : Str → Option Value) (f : Heap → Nat → Shared) (I : Addr) (oI : Obj) (C : Addr) (oC : Obj) (D : Addr) (oD : Obj) (K : List (Addr × Obj) → Prop) (s' : Shared) : Prop
  | mk (g' : Heap) (led : List (Addr × Obj)) (h' : Heap) (tk' : Nat) (e : s' = f h' tk') (S : Slid (fra outer) g g') (F : Fr g' L h' m) (N : News g' L h' ((I, oI) :: (C, oC) :: (D, oD) :: led)) (off : Off I C D led) (k : K led) : TurnE outer g L m f I oI C oC D oD K s'
noncomputable def Turn (outer : List Env) (g : Heap) (L : Addr) (m : Str → Option Value) (s : Shared) (I : Addr) (oI : Obj) (C : Addr) (oC : Obj) (D : Addr) (oD : Obj) (K : List (Addr × Obj) → Prop) (s' : Shared) : Prop := TurnE outer g L m (fun h t => { s with heap := h, toks := t }) I oI C oC D oD K s'

inductive CompS (A₀ : Around) (base : Heap) (outer : List Env) (g : Heap) (L : Addr) (m : Str → Option Value) (s : Shared) (n : Nat) (J : Nat → List Value → List (Addr × Obj) → Prop) (I C D : Addr) (St : Nat → Heap → Prop) (k : Nat) (s' : Shared) : Prop
  | mk (i : Nat) (ys : List Value) (g' : Heap) (oC : Obj) (m' : Str → Option Value) (led : List (Addr × Obj)) (o : Obj) (h : Heap) (tk : Nat) (e : s' = { s with heap := h, toks := tk }) (ek : k = n + 1 - i) (hi : i ≤ n) (j : J i ys led) (S : Slid (fra outer) g g') (B : Below A₀ base outer g') (F : Fr g' L h m) (hC : NsObj oC m') (N : News g' L h ((I, o) :: (C, oC) :: (D, lst ys) :: led)) (off : Off I C D led) (st : St i h) : CompS A₀ base outer g L m s n J I C D St k s'
section
variable {w : World} {A A₀ : Around} {base g : Heap} {outer : List Env} {L I C D : Addr} {m : Str → Option Value} {s : Shared} {news S : List (Addr × Obj)} {fp : List Addr} {n : Nat} {P : Nat → Value → Prop} {St : Nat → Heap → Prop} {env cenv : Env} {x : Str} {px : Pos} {elt iter : PySem.Expr} {ifs : List PySem.Expr} {scope : Scope} {cl : List (Str × Addr)} {pos : Pos} {R : Result → Shared → Prop} {E : Value → Shared → Prop}

noncomputable def TurnOk (w : World) (A A₀ : Around) (base : Heap) (outer : List Env) (g : Heap) (L : Addr) (m : Str → Option Value) (s : Shared) (n : Nat) (P : Nat → Value → Prop) (x : Str) (ifs : List PySem.Expr) (elt : PySem.Expr) (J : Nat → List Value → List (Addr × Obj) → Prop) (I C D : Addr) (cenv : Env) : Prop :=
  ∀ i v ys g' oI oC (m₂ : Str → Option Value) led h tk, i < n → P i v → J i ys led → Slid (fra outer) g g' → Below A₀ base outer g' → Fr g' L h m → NsObj oC m₂ → m₂ x = some v → News g' L h ((I, oI) :: (C, oC) :: (D, lst ys) :: led) → ((@Ne Nat I C) ∧ (@Ne Nat I D) ∧ (@Ne Nat C D)) → Off I C D led →
      wpAny (MG w) A (testsOf ifs cenv) (fun ok s₃ => if ok = true
        then wpAny (MG w) A (eval elt cenv) (fun y s₄ => Turn outer g' L m s I oI C oC D (lst ys) (J (i + 1) (ys ++ [y])) s₄) (fun _ _ => False) s₃
        else Turn outer g' L m s I oI C oC D (lst ys) (J (i + 1) ys) s₃) (fun _ _ => False) { s with heap := h, toks := tk }

theorem loop_L (W : Walks PySem.Challenge.rw_ny0334_01.prog w A I fp [I] n P St) (hth : ∀ i h, St i h → ∃ o, h.get? I = some o) (hfp : ∀ b ∈ fp, b = I ∨ ∃ o, (b, o) ∈ S)
    (J : Nat → List Value → List (Addr × Obj) → Prop) (hS : ∀ i ys led, J i ys led → ∀ q ∈ S, q ∈ led) (hlen : ∀ i ys led, J i ys led → ys.length ≤ sizeLine)
    (B : Below A₀ base outer g) (F : Fr g L s.heap m) {o₀ oC₀ : Obj} {m₀ : Str → Option Value} (N : News g L s.heap ((I, o₀) :: (C, oC₀) :: (D, lst []) :: news)) (hC : NsObj oC₀ m₀) (ne : I ≠ C ∧ I ≠ D ∧ C ≠ D) (off : Off I C D news) (hst : St 0 s.heap) (j0 : J 0 [] news)
    (turn : TurnOk w A A₀ base outer g L m s n P x ifs elt J I C D cenv)
    (fin : ∀ ys g' oC m' led h tk, J n ys led → Slid (fra outer) g g' → Below A₀ base outer g' → Fr g' L h m → NsObj oC m' → News g' L h ((C, oC) :: (D, lst ys) :: led) → Off I C D led → R (.ok .next) { s with heap := h, toks := tk })
    (hL : cenv.locals = C) (hx : cenv.kindOf x = some .local) (hp : (cenv.scope.kind == .class || (cenv.scope.kind == .module && cenv.locals != cenv.globals)) = false) :
    codeAny (MG w) A (.compLoop (.ListComp elt [⟨.Name x px, iter, ifs, 0⟩] scope pos) 0 (.ref I) (.ref D) cenv) R s := by
  subst hL
  refine codeAny_compLoop_tests (CompS A₀ base outer g L m s n J I cenv.locals D St) ?_ (n + 1)
    ⟨0, [], g, oC₀, m₀, news, o₀, s.heap, s.toks, rfl, rfl, Nat.zero_le _, j0, Slid.refl .., B, F, hC, N, off, hst⟩
  intro k s' hP1; refine hideG fun G0 k0 => ?_; obtain ⟨i, ys, g', oC, m', led, o, h, tk, eq1, eq2, hi, hj, Sl, B', F', hC', N', off', st⟩ := hP1; refine k0 ?_; clear k0 G0; subst eq1; subst eq2
  have hI : ∀ q ∈ (cenv.locals, oC) :: (D, lst ys) :: led, q.1 ≠ I := fun q hq => by
    rcases List.mem_cons.mp hq with rfl | hq
    · exact Ne.symm ne.1
    · rcases List.mem_cons.mp hq with rfl | hq
      · exact Ne.symm ne.2.1
      · exact (off' q hq).1
  by_cases hlt : i < n
  · refine step_iter (s := { s with heap := h, toks := tk }) W hth F' N' hI hlt st fun v h1 tk1 o1 hP st1 F1 N1 => ?_
    have eC := N1 (cenv.locals, oC) (.tail _ (.head _))
    refine wpAny_assign_Name (wpAny_storeName_local hx (hC'.ns eC.1) (fun h2 hn2 hs2 => ?_) hp)
    refine hideG fun G0 k0 => ?_; obtain ⟨oC2, hoC2, hC2⟩ := ns_obj hn2; refine k0 ?_; clear k0 G0
    have F2 : Fr g' L h2 m := F1.change hs2 eC.2.1 eC.2.2
    have N2 : News g' L h2 ((I, o1) :: (cenv.locals, oC2) :: (D, lst ys) :: led) := N1.setSecond ne.1 (fun q hq => by
      rcases List.mem_cons.mp hq with rfl | hq
      · exact Ne.symm ne.2.2
      · exact (off' q hq).2.1) hs2 hoC2
    have inS : ∀ {a b c : Addr × Obj} {l : List (Addr × Obj)} {q : Addr × Obj}, q ∈ l → q ∈ a :: b :: c :: l := fun h => .tail _ (.tail _ (.tail _ h))
    have st2 : St (i + 1) h2 := st_keep W hfp st1 (N1 (I, o1) (.head _)).1 (N2 (I, o1) (.head _)).1 fun q hq => ⟨(N1 q (inS (hS _ _ _ hj q hq))).1, (N2 q (inS (hS _ _ _ hj q hq))).1⟩
    refine wpAny_mono (turn i v ys g' o1 oC2 _ led h2 (tk1 + 1) hlt hP hj Sl B' F2 hC2 (by simp) N2 ne off') (fun ok s₃ hf => ?_) fun _ _ q => q.elim
    cases ok with
    | false =>
      simp only [Bool.false_eq_true, if_false] at hf ⊢
      refine hideG fun G0 k0 => ?_; obtain ⟨g3, led3, h3, tk3, eq1, S3, F3, N3, off3, j3⟩ := hf; refine k0 ?_; clear k0 G0; subst eq1
      exact ⟨n + 1 - (i + 1), sub_step1 (by assumption), i + 1, ys, g3, oC2, _, led3, o1, h3, tk3, rfl, rfl, hlt, j3, Sl.trans S3, below_slid B' S3, F3, hC2, N3, off3, st_keep W hfp st2 (N2 (I, o1) (.head _)).1 (N3 (I, o1) (.head _)).1 fun q hq => ⟨(N2 q (inS (hS _ _ _ hj q hq))).1, (N3 q (inS (hS _ _ _ j3 q hq))).1⟩⟩
    | true =>
      simp only [if_true] at hf ⊢
      refine wpAny_mono hf (fun y s₄ hg => ?_) fun _ _ q => q.elim
      refine hideG fun G0 k0 => ?_; obtain ⟨g3, led3, h3, tk3, eq1, S3, F3, N3, off3, j3⟩ := hg; refine k0 ?_; clear k0 G0; subst eq1
      have U : Upd D (PySem.W.listOf ys.toArray ys.length) (PySem.W.listOf (ys.toArray.push y) (ys.length + 1)) ((I, o1) :: (cenv.locals, oC2) :: (D, lst ys) :: led3) ((I, o1) :: (cenv.locals, oC2) :: (D, lst (ys ++ [y])) :: led3) := by
        rw [← Mine.lst_snoc]
        exact .tail ne.2.1 (.tail ne.2.2 (.head fun q hq => (off3 q hq).2.2))
      refine append_K (s := { s with heap := h3, toks := tk3 }) F3 N3 U (fun h4 F4 N4 => ?_) (by have := hlen _ _ _ hj; exact this)
      exact ⟨n + 1 - (i + 1), sub_step1 (by assumption), i + 1, ys ++ [y], g3, oC2, _, led3, o1, h4, tk3, rfl, rfl, hlt, j3, Sl.trans S3, below_slid B' S3, F4, hC2, N4, off3, st_keep W hfp st2 (N2 (I, o1) (.head _)).1 (N4 (I, o1) (.head _)).1 fun q hq => ⟨(N2 q (inS (hS _ _ _ hj q hq))).1, (N4 q (inS (hS _ _ _ j3 q hq))).1⟩⟩
  · have hin : i = n := by omega
    subst hin
    exact stop_iter (s := { s with heap := h, toks := tk }) W F' N' hI st fun h1 tk1 F1 N1 => fin ys g' oC m' led h1 tk1 hj Sl B' F1 hC' N1 off'

theorem block_L (W : Walks PySem.Challenge.rw_ny0334_01.prog w A I fp [I] n P St) (hth : ∀ i h, St i h → ∃ o, h.get? I = some o) (hfp : ∀ b ∈ fp, b = I ∨ ∃ o, (b, o) ∈ S) (hfs : ∀ q ∈ S, q ∈ news)
    (J : Nat → List Value → List (Addr × Obj) → Prop) (hS : ∀ i ys led, J i ys led → ∀ q ∈ S, q ∈ led) (hlen : ∀ i ys led, J i ys led → ys.length ≤ sizeLine)
    (B : Below A₀ base outer g) (F : Fr g L s.heap m) {o₀ : Obj} (N : News g L s.heap ((I, o₀) :: news)) (hI : ∀ q ∈ news, q.1 ≠ I) (hst : St 0 s.heap) (j0 : J 0 [] news)
    (turn : ∀ C D, TurnOk w A A₀ base outer g L m s n P x ifs elt J I C D (compEnvC scope cl C env))
    {PostC : Value → Addr → Result → Shared → Prop}
    (fin : ∀ ys D C g' oC m' led h tk, J n ys led → Slid (fra outer) g g' → Below A₀ base outer g' → Fr g' L h m → NsObj oC m' → News g' L h ((C, oC) :: (D, lst ys) :: led) → C ≠ D → Off I C D led → PostC (.ref D) C (.ok .next) { s with heap := h, toks := tk })
    (hcell : ∀ y ∈ scope.names, y.2 ≠ .cell) (hkind : scope.kind = .function) (hx : scope.names.lookup x = some .local) :
    wpAny (MG w) A (newList []) (fun acc s₃ => wpAny (MG w) A (newFunctionEnv scope env.globals cl [] env.qual none .none (some env)) (fun cenv s₄ =>
      codeAny (MG w) A (.compStart (.ListComp elt [⟨.Name x px, iter, ifs, 0⟩] scope pos) 0 (.ref I) acc { cenv with scope := relabel scope env }) (PostC acc cenv.locals) s₄) E s₃) E s := by
  have nI := N (I, o₀) (.head _)
  refine wpAny_newObj_type (T := "list") (data := .seq #[]) ?_ (by show (0 : Nat) ≤ sizeLine; exact Nat.zero_le _)
  show wpAny _ _ _ _ _ { s with heap := s.heap.push (lst []) }
  refine wpAny_newFunctionEnv (s := { s with heap := s.heap.push (lst []) }) hcell (fun y hy => by cases hy) (fun h2 hns2 hs2 => ?_) hkind
  have fresh : ∀ b, s.heap.objs.size ≤ b → g.get? b = none := fun b hb => by
    cases e : g.get? b with
    | none => rfl
    | some o => exact absurd (Heap.lt_size (F.keep b o e)) (Nat.not_lt.mpr hb)
  have old : ∀ b o, s.heap.get? b = some o → b < s.heap.objs.size := fun b o e => Heap.lt_size e
  have hCe : (s.heap.push (lst [])).objs.size = s.heap.objs.size + 1 := Heap.size_push ..
  have getD : (s.heap.push (lst [])).get? s.heap.objs.size = some (lst []) := Heap.get?_push_size _ rfl
  have g1 : g.get? s.heap.objs.size = none := fresh _ (Nat.le_refl _)
  have g2 : g.get? (s.heap.push (lst [])).objs.size = none := fresh _ (by rw [hCe]; exact Nat.le_succ _)
  have hLlt := F.ns.lt
  generalize hC : (s.heap.push (lst [])).objs.size = C at *
  generalize hD : s.heap.objs.size = D at *
  have hDC : D ≠ C := by rw [hCe]; exact Nat.ne_of_lt (Nat.lt_succ_self _)
  have upC : ∀ b o, s.heap.get? b = some o → b ≠ D ∧ b ≠ C := fun b o e => ⟨Nat.ne_of_lt (old b o e), by rw [hCe]; exact Nat.ne_of_lt (Nat.lt_succ_of_lt (old b o e))⟩
  have up2 : ∀ b o, s.heap.get? b = some o → h2.get? b = some o := fun b o e => hs2.extBut b o (upC b o e).2 (Heap.get?_push_of_some _ (Heap.get?_push_of_some _ e))
  have getD2 : h2.get? D = some (lst []) := hs2.extBut _ _ hDC (Heap.get?_push_of_some _ getD)
  refine hideG fun G0 k0 => ?_; obtain ⟨oC, hoC, hCn⟩ := ns_obj hns2; refine k0 ?_; clear k0 G0
  have hLD : D ≠ L := Ne.symm (Nat.ne_of_lt hLlt)
  have hLC : C ≠ L := by rw [hCe]; exact Ne.symm (Nat.ne_of_lt (Nat.lt_succ_of_lt hLlt))
  have F2 : Fr g L h2 m := F.keeps up2
  have N2 : News g L h2 ((I, o₀) :: (C, oC) :: (D, lst []) :: news) := fun q hq => by
    rcases List.mem_cons.mp hq with rfl | hq
    · exact ⟨up2 _ _ nI.1, nI.2⟩
    · rcases List.mem_cons.mp hq with rfl | hq
      · exact ⟨hoC, hLC, g2⟩
      · rcases List.mem_cons.mp hq with rfl | hq
        · exact ⟨getD2, hLD, g1⟩
        · have := N q (List.mem_cons_of_mem _ hq)
          exact ⟨up2 _ _ this.1, this.2⟩
  have st2 : St 0 h2 := st_keep W hfp hst nI.1 (N2 (I, o₀) (.head _)).1 fun q hq => ⟨(N q (List.mem_cons_of_mem _ (hfs q hq))).1, (N2 q (.tail _ (.tail _ (.tail _ (hfs q hq))))).1⟩
  have nes := upC _ _ nI.1
  have loop : codeAny (MG w) A (.compLoop (.ListComp elt [⟨.Name x px, iter, ifs, 0⟩] scope pos) 0 (.ref I) (.ref D) (compEnvC scope cl C env)) (PostC (.ref D) C) { s with heap := h2 } := by
    refine loop_L (s := { s with heap := h2 }) W hth hfp J hS hlen B F2 N2 hCn ⟨nes.2, nes.1, Ne.symm hDC⟩ (fun q hq => ?_) st2 j0 (turn C D) (fun ys g' oC m' led h tk hj Sl B' F' hC' N' off => fin ys D C g' oC m' led h tk hj Sl B' F' hC' N' (Ne.symm hDC) off) rfl (lookup_relabel_local hx) (by simp [compEnvC, relabel, hkind])
    have := upC _ _ (N q (List.mem_cons_of_mem _ hq)).1
    exact ⟨hI q hq, this.2, this.1⟩
  exact codeAny_compStart_list loop (W.self 0 _ _ _ st2 loop)
end
end Mine
end

section
open PySem PySem.Spec PySem.Calls PySem.W PyProof.Rows PyProof.Rows.LCg
set_option Elab.async false
set_option maxRecDepth 100000
set_option maxHeartbeats 8000000
set_option linter.unusedVariables false
namespace Mine

section
variable {w : World} {A A₀ : Around} {base g : Heap} {outer : List Env} {L : Addr} {m : Str → Option Value} {s : Shared} {news S : List (Addr × Obj)} {n : Nat} {P : Nat → Value → Prop} {env : Env} {x : Str} {px : Pos} {elt iter : PySem.Expr} {ifs : List PySem.Expr} {scope : Scope} {cl : List (Str × Addr)} {pos : Pos} {E : Value → Shared → Prop} {xv : Value}

noncomputable def Source (w : World) (A : Around) (g : Heap) (L : Addr) (m : Str → Option Value) (s : Shared) (news : List (Addr × Obj)) (xv : Value) (S : List (Addr × Obj)) (n : Nat) (P : Nat → Value → Prop) : Prop :=
  ∀ (Q E : Value → Shared → Prop), (∀ I o₀ h fp St, Walks PySem.Challenge.rw_ny0334_01.prog w A I fp [I] n P St → (∀ i h, St i h → ∃ o, h.get? I = some o) → (∀ b ∈ fp, b = I ∨ ∃ o, (b, o) ∈ S) → St 0 h → Fr g L h m → News g L h ((I, o₀) :: news) → (∀ q ∈ news, q.1 ≠ I) → Q (.ref I) { s with heap := h }) →
    wpAny (MG w) A (pyIter xv) Q E s

theorem source_list {ax : Addr} {its : Array Value} {k : Nat} (hh : A.handled = none) (F : Fr g L s.heap m) (N : News g L s.heap news) (hm : (ax, W.listOf its k) ∈ news) :
    Source w A g L m s news (.ref ax) [(ax, W.listOf its k)] its.size (fun i v => its[i]? = some v) := fun Q E h => by
  have hl : s.heap.IsList ax its := ⟨_, (N _ hm).1, rfl, _, rfl⟩
  have hlt : ax < s.heap.objs.size := Heap.lt_size (N _ hm).1
  have up : ∀ b o, s.heap.get? b = some o → (s.heap.push { cls := .type "list_iterator", data := .fields #[.ref ax, .int 0 0] }).get? b = some o := fun b o e => Heap.get?_push_of_some _ e
  refine wpAny_pyIter_list hl (h s.heap.objs.size { cls := .type "list_iterator", data := .fields #[.ref ax, .int 0 0] } _ _ _ (Walks.list hh s.heap.objs.size ax (Nat.ne_of_lt hlt) its) (fun i h st => by obtain ⟨o, e, _⟩ := st.1; exact ⟨o, e⟩) (fun b hb => ?_) ⟨⟨_, Heap.get?_push_size _ rfl, rfl, rfl⟩, hl.push _⟩ (F.keeps up) (fun q hq => ?_) fun q hq => Nat.ne_of_lt (Heap.lt_size (N q hq).1))
  · rcases List.mem_cons.mp hb with rfl | hb
    · exact .inl rfl
    · exact .inr ⟨_, by rw [List.mem_singleton.mp hb]; exact .head _⟩
  · rcases List.mem_cons.mp hq with rfl | hq
    · exact ⟨Heap.get?_push_size _ rfl, Ne.symm (Nat.ne_of_lt F.ns.lt), next_is_new F⟩
    · exact ⟨up _ _ (N q hq).1, (N q hq).2⟩

theorem source_range {r : Addr} {a b : Int} {t u v : Tok} (hh : A.handled = none) (F : Fr g L s.heap m) (N : News g L s.heap news) (hr : IsRange s.heap r a b 1 t u v) (hsm : Builtin.Range.small a b 1 = true) (hn : Builtin.Range.rangeSize a b 1 = ((n : Nat) : Int)) :
    Source w A g L m s news (.ref r) [] n (fun i v => ∃ t, v = .int (a + (i : Int)) t) := fun Q E h => by
  refine wpAny_pyIter_range hr hsm (h s.heap.objs.size { cls := .type "range_iterator", dict := none, data := .fields #[rawInt a, rawInt (Builtin.Range.rangeSize a b 1), rawInt 1], slots := #[] } _ _ _ (range_walks hh a n) (fun i h st => ⟨_, st⟩) (fun b hb => .inl (List.mem_singleton.mp hb)) (by show IsRangeIter _ _ _ _ _; rw [hn]; simpa using Heap.get?_push_size _ rfl) (F.keeps fun _ _ e => Heap.get?_push_of_some _ e) (fun q hq => ?_) fun q hq => Nat.ne_of_lt (Heap.lt_size (N q hq).1))
  rcases List.mem_cons.mp hq with rfl | hq
  · exact ⟨Heap.get?_push_size _ rfl, Ne.symm (Nat.ne_of_lt F.ns.lt), next_is_new F⟩
  · exact ⟨Heap.get?_push_of_some _ (N q hq).1, (N q hq).2⟩

noncomputable def Src (w : World) (A : Around) (E : Value → Shared → Prop) (elt : PySem.Expr) (x : Str) (px : Pos) (iter : PySem.Expr) (ifs : List PySem.Expr) (scope : Scope) (pos : Pos) (cl : List (Str × Addr)) (env : Env) (PostC : Value → Addr → Result → Shared → Prop) (xv : Value) (s₁ : Shared) : Prop :=
  wpAny (MG w) A (pyIter xv) (fun it s₂ => wpAny (MG w) A (newList []) (fun acc s₃ => wpAny (MG w) A (newFunctionEnv scope env.globals cl [] env.qual none .none (some env)) (fun cenv s₄ =>
      codeAny (MG w) A (.compStart (.ListComp elt [⟨.Name x px, iter, ifs, 0⟩] scope pos) 0 it acc { cenv with scope := relabel scope env }) (PostC acc cenv.locals) s₄) E s₃) E s₂) E s₁

theorem ListComp_J {Q : Value → Shared → Prop} (hclos : closureFor scope env = pure cl) (hkind : scope.kind = .function)
    (hnames : ∀ y ∈ scope.names, y.2 = .local → scope.names.lookup y.1 = some .local)
    (h : wpAny (MG w) A (eval iter env) (Src w A E elt x px iter ifs scope pos cl env (compPost (MG w) A E none Q)) E s)
    (hs : ∀ x, foldedSetIterable iter env x = pure x) :
    wpAny (MG w) A (eval (.ListComp elt [⟨.Name x px, iter, ifs, 0⟩] scope pos) env) Q E s := by
  rw [eval_ListComp]
  exact wpAny_comprehension_free (use := none) rfl hs hclos hkind hnames h

theorem AssignComp_J {y : Str} {py spos : Pos} {Q : Flow → Shared → Prop} (hsw : swapsWith (.ListComp elt [⟨.Name x px, iter, ifs, 0⟩] scope pos) (some (.Name y py)) spos.line env = pure true)
    (hclos : closureFor scope env = pure cl) (hkind : scope.kind = .function)
    (hnames : ∀ y ∈ scope.names, y.2 = .local → scope.names.lookup y.1 = some .local)
    (h : wpAny (MG w) A (eval iter env) (Src w A E elt x px iter ifs scope pos cl env (compPost (MG w) A E (some (assign (.Name y py) env)) (fun _ s' => Q .next s'))) E s)
    (hs : ∀ x, foldedSetIterable iter env x = pure x) :
    wpAny (MG w) A (exec (.Assign [.Name y py] (.ListComp elt [⟨.Name x px, iter, ifs, 0⟩] scope pos) spos) env) Q E s := by
  rw [exec_Assign_Name_used _ _ _ _ hsw]
  refine wpAny_bind (wpAny_standAt (wpAny_bind ?_))
  show wpAny _ A (do let _ ← comprehension (.ListComp elt [⟨.Name x px, iter, ifs, 0⟩] scope pos) scope env _ (newList []) false (eval iter env) (some (assign (.Name y py) env))) _ _ s
  exact wpAny_bind (wpAny_mono (wpAny_comprehension_free (use := some (assign (.Name y py) env)) (Q := fun _ s' => Q .next s') rfl hs hclos hkind hnames h) (fun _ s' hq => wpAny_pure (wpAny_pure hq)) fun _ _ e => e)

noncomputable abbrev Turns (w : World) (A A₀ : Around) (base : Heap) (outer : List Env) (g : Heap) (L : Addr) (m : Str → Option Value) (s : Shared) (n : Nat) (P : Nat → Value → Prop) (x : Str) (ifs : List PySem.Expr) (elt : PySem.Expr) (J : Nat → List Value → List (Addr × Obj) → Prop) (scope : Scope) (cl : List (Str × Addr)) (env : Env) : Prop :=
  ∀ (h₂ : Heap) I C D, TurnOk w A A₀ base outer g L m { s with heap := h₂ } n P x ifs elt J I C D (compEnvC scope cl C env)

theorem src_J {PostC : Value → Addr → Result → Shared → Prop} (So : Source w A g L m s news xv S n P) (hfs : ∀ q ∈ S, q ∈ news)
    (J : Nat → List Value → List (Addr × Obj) → Prop) (hS : ∀ i ys led, J i ys led → ∀ q ∈ S, q ∈ led) (hlen : ∀ i ys led, J i ys led → ys.length ≤ sizeLine)
    (B : Below A₀ base outer g) (j0 : J 0 [] news) (turn : Turns w A A₀ base outer g L m s n P x ifs elt J scope cl env)
    (fin : ∀ ys D C g' oC m' led h tk, J n ys led → Slid (fra outer) g g' → Below A₀ base outer g' → Fr g' L h m → NsObj oC m' → News g' L h ((C, oC) :: (D, lst ys) :: led) → C ≠ D → (∀ q ∈ led, q.1 ≠ C ∧ q.1 ≠ D) → PostC (.ref D) C (.ok .next) { s with heap := h, toks := tk })
    (hcell : ∀ y ∈ scope.names, y.2 ≠ .cell) (hkind : scope.kind = .function) (hx : scope.names.lookup x = some .local) :
    Src w A E elt x px iter ifs scope pos cl env PostC xv s :=
  So _ _ fun I o₀ h fp St W hth hfp hst F N hI => block_L (s := { s with heap := h }) W hth hfp hfs J hS hlen B F N hI hst j0 (fun C D => turn h I C D) (fun ys D C g' oC m' led h' tk hj Sl B' F' hC N' ne off => fin ys D C g' oC m' led h' tk hj Sl B' F' hC N' ne fun q hq => (off q hq).2) hcell hkind hx

theorem src_E {Q : Value → Shared → Prop} (So : Source w A g L m s news xv S n P) (hfs : ∀ q ∈ S, q ∈ news)
    (J : Nat → List Value → List (Addr × Obj) → Prop) (hS : ∀ i ys led, J i ys led → ∀ q ∈ S, q ∈ led) (hlen : ∀ i ys led, J i ys led → ys.length ≤ sizeLine)
    (B : Below A₀ base outer g) (j0 : J 0 [] news) (turn : Turns w A A₀ base outer g L m s n P x ifs elt J scope cl env)
    (fin : ∀ ys D g' led h tk, J n ys led → Slid (fra outer) g g' → Below A₀ base outer g' → Fr g' L h m → News g' L h ((D, lst ys) :: led) → (∀ q ∈ led, q.1 ≠ D) → Q (.ref D) { s with heap := h, toks := tk })
    (hcell : ∀ y ∈ scope.names, y.2 ≠ .cell) (hkind : scope.kind = .function) (hx : scope.names.lookup x = some .local) :
    Src w A E elt x px iter ifs scope pos cl env (compPost (MG w) A E none Q) xv s := by
  refine src_J So hfs J hS hlen B j0 turn (fun ys D C g' oC m' led h tk hj Sl B' F' hC N' ne off => ?_) hcell hkind hx
  have eC := N' (C, oC) (.head _)
  refine ⟨m', hC.ns eC.1, fun h'' hs => fin ys D g' led h'' tk hj Sl B' (F'.change hs eC.2.1 eC.2.2) (fun q hq => ?_) fun q hq => (off q hq).2⟩
  have := N' q (.tail _ hq)
  refine ⟨hs.extBut _ _ ?_ this.1, this.2⟩
  rcases List.mem_cons.mp hq with rfl | hq
  · exact Ne.symm ne
  · exact (off q hq).1

theorem src_A {y : Str} {py : Pos} {Q : Value → Shared → Prop} (So : Source w A g L m s news xv S n P) (hfs : ∀ q ∈ S, q ∈ news)
    (J : Nat → List Value → List (Addr × Obj) → Prop) (hS : ∀ i ys led, J i ys led → ∀ q ∈ S, q ∈ led) (hlen : ∀ i ys led, J i ys led → ys.length ≤ sizeLine)
    (B : Below A₀ base outer g) (j0 : J 0 [] news) (turn : Turns w A A₀ base outer g L m s n P x ifs elt J scope cl env)
    (fin : ∀ ys D g' led h tk, J n ys led → Slid (fra outer) g g' → Below A₀ base outer g' → Fr g' L h (fun z => if z = y then some (.ref D) else m z) → News g' L h ((D, lst ys) :: led) → (∀ q ∈ led, q.1 ≠ D) → Q .none { s with heap := h, toks := tk })
    (hcell : ∀ y ∈ scope.names, y.2 ≠ .cell) (hkind : scope.kind = .function) (hx : scope.names.lookup x = some .local)
    (hL : env.locals = L) (hy : env.kindOf y = some .local) (hp : (env.scope.kind == .class || (env.scope.kind == .module && env.locals != env.globals)) = false) :
    Src w A E elt x px iter ifs scope pos cl env (compPost (MG w) A E (some (assign (.Name y py) env)) Q) xv s := by
  subst hL
  refine src_J So hfs J hS hlen B j0 turn (fun ys D C g' oC m' led h tk hj Sl B' F' hC N' ne off => ?_) hcell hkind hx
  have eC := N' (C, oC) (.head _)
  show wpAny _ A (assign (.Name y py) env (.ref D)) _ _ _
  refine wpAny_assign_Name (wpAny_storeName_local hy F'.ns (fun h₂ hn₂ hs₂ => ?_) hp)
  have F2 := F'.set hn₂ hs₂
  have N2 := N'.set hs₂
  have eC2 := N2 (C, oC) (.head _)
  refine ⟨m', hC.ns eC2.1, fun h'' hs => fin ys D g' led h'' _ hj Sl B' (F2.change hs eC.2.1 eC.2.2) (fun q hq => ?_) fun q hq => (off q hq).2⟩
  have := N2 q (.tail _ hq)
  refine ⟨hs.extBut _ _ ?_ this.1, this.2⟩
  rcases List.mem_cons.mp hq with rfl | hq
  · exact Ne.symm ne
  · exact (off q hq).1

end
end Mine
end

section
open PySem PySem.Spec PySem.Calls PySem.W PyProof.Rows PyProof.Rows.LCg
set_option Elab.async false
set_option maxRecDepth 100000
set_option maxHeartbeats 8000000
set_option linter.unusedVariables false
namespace Mine
noncomputable def Here (P : Prop) : Prop := P
theorem here {P : Prop} (h : Here P) : P := h

section
variable {w : World} {A A₀ : Around} {base g : Heap} {outer : List Env} {L : Addr} {m : Str → Option Value} {s : Shared} {news S : List (Addr × Obj)} {n : Nat} {P : Nat → Value → Prop} {env : Env} {x : Str} {px fpos : Pos} {iter : PySem.Expr} {body : List Stmt} {E : Value → Shared → Prop} {xv : Value} {Q : Flow → Shared → Prop}

noncomputable def ForSrc (w : World) (A : Around) (E : Value → Shared → Prop) (Q : Flow → Shared → Prop) (x : Str) (px : Pos) (body : List Stmt) (env : Env) (xv : Value) (s₁ : Shared) : Prop :=
  wpAny (MG w) A (pyIter xv) (fun it s₂ => codeAny (MG w) A (.forLoop (.Name x px) it body [] env) (fun r s' => match r with | .ok f => Q f s' | .error e => cameBackBy (MG w) A env E e s') s₂) E s₁

theorem for_E (h : wpAny (MG w) A (eval iter env) (ForSrc w A E Q x px body env) E s)
    (hs : ∀ x, foldedSetIterable iter env x = pure x) : Here (wpAny (MG w) A (exec (.For (.Name x px) iter body [] fpos) env) Q E s) := wpAny_For h hs

noncomputable abbrev ForTurn (w : World) (A A₀ : Around) (base : Heap) (outer : List Env) (g : Heap) (L : Addr) (s : Shared) (n : Nat) (P : Nat → Value → Prop) (x : Str) (body : List Stmt) (env : Env) (J : Nat → (Str → Option Value) → List (Addr × Obj) → Prop) (Q : Flow → Shared → Prop) : Prop :=
  ∀ I i v g' m' led o h tk, i < n → P i v → J i m' led → Slid (fra outer) g g' → Below A₀ base outer g' → Fr g' L h (fun y => if y = x then some v else m' y) → News g' L h ((I, o) :: led) → (∀ q ∈ led, q.1 ≠ I) →
      wpAny (MG w) A (execs body env) (fun f s₃ => match f with
        | .next | .cont => Goes outer g' L s (fun m'' l => ∃ led', l = (I, o) :: led' ∧ J (i + 1) m'' led' ∧ ∀ q ∈ led', q.1 ≠ I) s₃
        | .brk => Q .next s₃
        | .ret v => Q (.ret v) s₃) (fun _ _ => False) { s with heap := h, toks := tk }

theorem for_L (So : Source w A g L m s news xv S n P) (hfs : ∀ q ∈ S, q ∈ news)
    (J : Nat → (Str → Option Value) → List (Addr × Obj) → Prop) (hS : ∀ i m' led, J i m' led → ∀ q ∈ S, q ∈ led) (B : Below A₀ base outer g) (j0 : J 0 m news)
    (turn : ForTurn w A A₀ base outer g L s n P x body env J Q)
    (fin : ∀ g' m' led h tk, J n m' led → Slid (fra outer) g g' → Below A₀ base outer g' → Fr g' L h m' → News g' L h led → Q .next { s with heap := h, toks := tk })
    (hL : env.locals = L) (hx : env.kindOf x = some .local) (hp : (env.scope.kind == .class || (env.scope.kind == .module && env.locals != env.globals)) = false) :
    ForSrc w A E Q x px body env xv s :=
  So _ _ fun I o₀ h fp St W hth hfp hst F N hI => by
    refine for_W (s := { s with heap := h }) W hth hfp (fun i m' led => J i m' led ∧ ∀ q ∈ led, q.1 ≠ I) (fun i m' led h => hS i m' led h.1) (fun i m' led h => h.2) B F N hst ⟨j0, hI⟩ (fun i v g' m' led o h' tk hi hP hj Sl B' F' N' => ?_) (fun g' m' led h' tk hj Sl B' F' N' => fin g' m' led h' tk hj.1 Sl B' F' N') hL hx hp
    exact wpAny_mono (turn I i v g' m' led o h' tk hi hP hj.1 Sl B' F' N' hj.2) (fun _ _ q => q) fun _ _ q => q.elim
noncomputable abbrev ForTurnE (w : World) (A A₀ : Around) (base : Heap) (outer : List Env) (g : Heap) (L : Addr) (s : Shared) (n : Nat) (P : Nat → Value → Prop) (x : Str) (body : List Stmt) (env : Env) (J : Nat → (Str → Option Value) → List (Addr × Obj) → Prop) (Q : Flow → Shared → Prop) (E : Value → Shared → Prop) : Prop :=
  ∀ I i v g' m' led o h tk, i < n → P i v → J i m' led → Slid (fra outer) g g' → Below A₀ base outer g' → Fr g' L h (fun y => if y = x then some v else m' y) → News g' L h ((I, o) :: led) → (∀ q ∈ led, q.1 ≠ I) →
      wpAny (MG w) A (execs body env) (fun f s₃ => match f with
        | .next | .cont => Goes outer g' L s (fun m'' l => ∃ led', l = (I, o) :: led' ∧ J (i + 1) m'' led' ∧ ∀ q ∈ led', q.1 ≠ I) s₃
        | .brk => Q .next s₃
        | .ret v => Q (.ret v) s₃) (notedBy (MG w) A env fun e s' => cameBackBy (MG w) A env E e s') { s with heap := h, toks := tk }

theorem for_LE (So : Source w A g L m s news xv S n P) (hfs : ∀ q ∈ S, q ∈ news)
    (J : Nat → (Str → Option Value) → List (Addr × Obj) → Prop) (hS : ∀ i m' led, J i m' led → ∀ q ∈ S, q ∈ led) (B : Below A₀ base outer g) (j0 : J 0 m news)
    (turn : ForTurnE w A A₀ base outer g L s n P x body env J Q E)
    (fin : ∀ g' m' led h tk, J n m' led → Slid (fra outer) g g' → Below A₀ base outer g' → Fr g' L h m' → News g' L h led → Q .next { s with heap := h, toks := tk })
    (hL : env.locals = L) (hx : env.kindOf x = some .local) (hp : (env.scope.kind == .class || (env.scope.kind == .module && env.locals != env.globals)) = false) :
    ForSrc w A E Q x px body env xv s :=
  So _ _ fun I o₀ h fp St W hth hfp hst F N hI => by
    refine for_W (s := { s with heap := h }) W hth hfp (fun i m' led => J i m' led ∧ ∀ q ∈ led, q.1 ≠ I) (fun i m' led h => hS i m' led h.1) (fun i m' led h => h.2) B F N hst ⟨j0, hI⟩ (fun i v g' m' led o h' tk hi hP hj Sl B' F' N' => ?_) (fun g' m' led h' tk hj Sl B' F' N' => fin g' m' led h' tk hj.1 Sl B' F' N') hL hx hp
    exact turn I i v g' m' led o h' tk hi hP hj.1 Sl B' F' N' hj.2
end
end Mine
end

section
open PySem PySem.Spec PySem.Calls PySem.W PyProof.Rows PyProof.Rows.LCg
set_option Elab.async false
set_option maxRecDepth 100000
set_option maxHeartbeats 8000000
set_option linter.unusedVariables false
namespace Mine
section
variable {w : World} {A : Around} {g : Heap} {L : Addr} {s : Shared} {news : List (Addr × Obj)} {E : Value → Shared → Prop} {Q : Value → Shared → Prop}
theorem sub_int {value slice : PySem.Expr} {ax : Addr} {its : Array Value} {k : Nat} {a : Int} {t : Tok} {v : Value} (N : News g L s.heap news) (hm : (ax, W.listOf its k) ∈ news) (h0 : 0 ≤ a) (h1 : a < 2 ^ 63) (hx : its[a.toNat]? = some v) (h : Q v s)
    (hs : subscripted slice false (.ref ax) (.int a t) = operate [.ref ax, .int a t] (getItem (.ref ax) (.int a t))) :
    wpAny (MG w) A (subscriptTail value slice (.ref ax) (.int a t)) Q E s :=
  have hL : s.heap.IsList ax its := ⟨_, (N _ hm).1, rfl, _, rfl⟩
  tail_any hL.typeIs slot_list_getitem.lookup (wpAny_getItem_list hL h0 h1 hx h) hs
end
end Mine
end

section
open PySem PySem.Spec PySem.Calls PySem.W PyProof.Rows PyProof.Rows.LCg PySem.SeqAt
set_option Elab.async false
set_option maxRecDepth 100000
set_option maxHeartbeats 8000000
set_option linter.unusedVariables false
namespace Mine
section
variable {w : World} {K : Frag} {base : Heap} {p : Program} {loose : List Str} {mean : ExcName → Option Value} {mg mb : Str → Option Value}
  {name qual : Str} {params : Arguments} {body : List Stmt} {scope : Scope} {dV kV doc pm cdv ct oc : Value} {an od : Option Addr} {osl : Array (Option Value)} {f : Addr} {vs : List Value} {binds : List (Str × Value)} {d : Nat} {pre : List (Addr × Obj)} {post rs : Value → List (Addr × Obj) → Prop}

theorem Con.ofC (X : K.In base) (T : Top p loose mean mg mb base)
    (ho : K.lookup f = some ⟨oc, od, .func (fnOf name qual params body scope dV kV doc pm an cdv ct), osl⟩) (hcd : codeIn K cdv qual = true)
    (hbind : ∀ s, BindsTo s (fnOf name qual params body scope dV kV doc pm an cdv ct) ⟨vs, []⟩ binds) (hkind : (binds.all fun y => scope.names.lookup y.1 == some .local || scope.names.lookup y.1 == some .cell) = true)
    (hnd : ((cellsFrom 0 scope.names []).map (·.1)).Nodup)
    (h : ∀ (dp : Nat) (envs : List Env) (gd : Option (List Code)) (un : Nat) (s : Shared) (g : Heap) (L : Addr) (h₁ : Heap) (tk : Nat) (cells : List (Addr × Obj)), dp + d < recursionLimit → un + 100 * d ≤ 5000 →
      Below (Ar dp envs gd un) base envs g → K.In g → Top p loose mean mg mb g → Fr g L h₁ (bindL (envOfC qual scope L f cdv).kindOf binds fun _ => none) → News g L h₁ (cells ++ pre) →
      CellsAre (bindC (envOfC qual scope L f cdv).kindOf binds fun _ => none) (cellsFrom (L + 1) scope.names []) cells → (∀ q ∈ pre, q.1 < L) →
      wpAny (model PySem.Challenge.rw_ny0334_01.prog w) ((Ar dp envs gd un).deeper (envOfC qual scope L f cdv)) (execs body (envOfC qual scope L f cdv)) (BodyQ g L envs s post) (BodyE w ((Ar dp envs gd un).deeper (envOfC qual scope L f cdv)) (envOfC qual scope L f cdv) g L envs s rs) { s with heap := h₁, toks := tk })
    (hco : scope.isCoroutine = false) (hgen : scope.isGenerator = false) (hk : scope.kind = .function) : Con w base f vs d pre post rs := by
  intro dp envs gd un s Q E hdp hun hb hff hp hpf hQ hE
  have hbg : base.StaysIn (hideAll s.heap (pre.map (·.1))) := fun b o e => hideAll_get _ (hb b o e) fun q => by
    obtain ⟨x, hx, e'⟩ := List.mem_map.mp q
    have := (hp x hx).2
    rw [e', e] at this; cases this
  have Bg : Below (Ar dp envs gd un) base envs (hideAll s.heap (pre.map (·.1))) := ⟨rfl, hbg, funFrames_hideAll hff fun env he a ha q => by
    obtain ⟨x, hx, e'⟩ := List.mem_map.mp ha
    exact hpf x hx (List.mem_filterMap.mpr ⟨env, he, by rw [q, ← e']⟩)⟩
  refine (codeAny_call_function (fd := fnOf name qual params body scope dV kV doc pm an cdv ct) (body := body) (show dp < recursionLimit by omega) (hb _ _ (X _ _ ho)) rfl hco hgen rfl (codeRec_of (X.keeps hb) hcd) (hbind s _ _ _ _ ?_))
  refine wpAny_newFunctionEnv_cells hk (kindsX hkind _) fun env' he s' x => ?_
  subst he
  refine ⟨(T.nolimit.keeps hb).keeps x.toInCall.keep, codeAny_func ?_⟩
  obtain ⟨h₁, tk, rfl, _⟩ := x.done
  have hk₁ := x.toInCall.keep
  obtain ⟨cells, NC, Y⟩ := Cl.news (h₀ := s.heap) (Nat.le_refl _) fun n c hm => ⟨x.cell n c (lookup_of_mem_nodup (cellsFrom_names scope.names 0 (s.heap.objs.size + 1) [] [] rfl ▸ hnd) hm), x.above n c hm⟩
  have F₁ : Fr (hideAll s.heap (pre.map (·.1))) s.heap.objs.size h₁ (bindL (envOfC qual scope s.heap.objs.size f cdv).kindOf binds fun _ => none) := ⟨x.toInCall.ns, fun b o e => hk₁ b o (of_hideAll _ e), Nat.le_of_eq (hideAll_size _ _)⟩
  have N₁ : News (hideAll s.heap (pre.map (·.1))) s.heap.objs.size h₁ (cells ++ pre) := fun q hq => by
    rcases List.mem_append.mp hq with hq | hq
    · refine ⟨(NC q hq).1, (NC q hq).2.1, ?_⟩
      cases e : (hideAll s.heap (pre.map (·.1))).get? q.1 with
      | none => rfl
      | some o => have := of_hideAll _ e; rw [(NC q hq).2.2] at this; cases this
    · exact ⟨hk₁ _ _ (hp q hq).1, Nat.ne_of_lt (Heap.lt_size (hp q hq).1), hideAll_none _ (List.mem_map_of_mem hq)⟩
  refine wpAny_mono (h dp envs gd un s _ s.heap.objs.size h₁ tk cells hdp hun Bg (X.keeps hbg) (T.keeps hbg) F₁ N₁ Y fun q hq => Heap.lt_size (hp q hq).1) ?_ ?_
  · rintro fl s' ⟨g', m', led, h', tk', rfl, S, F', N', hpost⟩
    obtain ⟨e1, e2⟩ := ents_of (L := s.heap.objs.size) hb hp S N'
    exact hQ _ led h' tk' hpost (chg_of S F'.keep) e1 e2
  · intro e s' he
    refine wpAny_mono he ?_ fun _ _ x => x.elim
    rintro _ s'' ⟨g', led, h', tk', rfl, S, hk', N', hrs⟩
    obtain ⟨e1, e2⟩ := ents_of (L := s.heap.objs.size) hb hp S N'
    exact hE e led h' tk' hrs (chg_of S hk') e1 e2
end

section
variable {prog : Program} {w : World} {A : Around} {g : Heap} {L ax : Addr} {s : Shared} {news : List (Addr × Obj)} {E : Value → Shared → Prop} {Q : Value → Shared → Prop} {vs : List Value} {ns : List Int} {n : Nat} {a : Int} {t : Tok}
theorem ints_any (a : Int) : ∀ {vs : List Value} {ns : List Int}, IntsAre vs ns → (vs.toArray.any fun v => match v with | .int k _ => k == a | _ => false) = decide (a ∈ ns)
  | _, _, .nil => by simp
  | _, _, .cons k t r => by
    have := ints_any a r
    simp only [List.any_toArray, List.any_cons] at this ⊢
    rw [this]
    by_cases h : k = a
    · simp [h]
    · simp [h, Ne.symm h]
theorem ints_eqAt {A : Around} {s : Shared} (a : Int) (t : Tok) : ∀ {vs : List Value} {ns : List Int}, IntsAre vs ns → ∀ y, y ∈ vs.toArray → EqAt A s y (.int a t) (match y with | .int k _ => k == a | _ => false)
  | _, _, .nil, y, h => by simp at h
  | _, _, .cons k u r, y, h => by
    rcases List.mem_cons.mp (by simpa using h) with rfl | h
    · exact EqAt.int_int k u a t
    · exact ints_eqAt a t r y (by simpa using h)
theorem in_ints (hl : s.heap.IsList ax vs.toArray) (hi : IntsAre vs ns) (h : Q (.bool (decide (a ∈ ns))) s) : wpAny (model prog w) A (compareOp .In (.int a t) (.ref ax)) Q E s :=
  in_listAt (fun v => match v with | .int k _ => k == a | _ => false) hl (ints_eqAt a t hi) (by rw [ints_any a hi]; exact h)
theorem listAt {k : Nat} (N : News g L s.heap news) (hm : (ax, W.listOf vs.toArray k) ∈ news) : s.heap.IsList ax vs.toArray := ⟨_, (N _ hm).1, rfl, _, rfl⟩
end
end Mine
end

section
open PySem PySem.Spec PySem.Calls PySem.W PyProof.Rows PyProof.Rows.LCg PySem.SeqAt
set_option Elab.async false
set_option maxRecDepth 100000
set_option maxHeartbeats 8000000
set_option linter.unusedVariables false
namespace Mine

inductive Sel (R : Nat → Value → Prop) (p : Nat → Bool) : Nat → List Value → Prop
  | zero : Sel R p 0 []
  | yes {i : Nat} {ys : List Value} {v : Value} : p i = true → R i v → Sel R p i ys → Sel R p (i + 1) (ys ++ [v])
  | no {i : Nat} {ys : List Value} : p i = false → Sel R p i ys → Sel R p (i + 1) ys
theorem Sel.len {R : Nat → Value → Prop} {p : Nat → Bool} {i : Nat} {ys : List Value} (h : Sel R p i ys) : ys.length ≤ i := by
  induction h with
  | zero => exact Nat.le_refl _
  | yes _ _ _ ih => rw [List.length_append]; exact Nat.succ_le_succ ih
  | no _ _ ih => exact Nat.le_succ_of_le ih
theorem IntsAre.app {vs us : List Value} {ns ms : List Int} (h : IntsAre vs ns) (h' : IntsAre us ms) : IntsAre (vs ++ us) (ns ++ ms) := by
  induction h with
  | nil => exact h'
  | cons k t _ ih => exact .cons k t ih
theorem range_filter_succ (p : Nat → Bool) (i : Nat) : (List.range (i + 1)).filter p = (List.range i).filter p ++ if p i = true then [i] else [] := by
  rw [List.range_succ, List.filter_append]
  cases h : p i <;> simp [h]
theorem Sel.ints {f : Nat → Int} {p : Nat → Bool} {i : Nat} {ys : List Value} (h : Sel (fun i v => ∃ t, v = .int (f i) t) p i ys) : IntsAre ys (((List.range i).filter p).map f) := by
  induction h with
  | zero => exact .nil
  | yes hp hr _ ih =>
    obtain ⟨t, e⟩ := hr
    rw [range_filter_succ, if_pos hp, List.map_append, e]
    exact IntsAre.app ih (.cons _ _ .nil)
  | no hp _ ih =>
    rw [range_filter_succ, hp, if_neg (by decide), List.append_nil]
    exact ih
theorem Sel.mono {R R' : Nat → Value → Prop} {p : Nat → Bool} {i : Nat} {ys : List Value} (k : ∀ j v, j < i → R j v → R' j v) (h : Sel R p i ys) : Sel R' p i ys := by
  induction h with
  | zero => exact .zero
  | yes hp r _ ih => exact .yes hp (k _ _ (Nat.lt_succ_self _) r) (ih fun j v hj => k j v (Nat.lt_succ_of_lt hj))
  | no hp _ ih => exact .no hp (ih fun j v hj => k j v (Nat.lt_succ_of_lt hj))
theorem filter_at {α : Type} [Inhabited α] (q : α → Bool) (l : List α) : ((List.range l.length).filter fun i => q (l.getD i default)).map (fun i => l.getD i default) = l.filter q := by
  have e : l = (List.range l.length).map fun i => l.getD i default := by
    refine List.ext_getElem (by simp) fun i h1 h2 => ?_
    simp [List.getD_eq_getElem?_getD, List.getElem?_eq_getElem h1]
  conv => rhs; rw [e]
  rw [List.filter_map]; rfl

section
variable {w : World} {A A₀ : Around} {base g : Heap} {outer : List Env} {L : Addr} {m : Str → Option Value} {s : Shared} {news S : List (Addr × Obj)} {n : Nat} {P R : Nat → Value → Prop} {p : Nat → Bool} {K : Nat → List (Addr × Obj) → Prop} {env : Env} {x : Str} {px p1 : Pos} {elt c : PySem.Expr} {scope : Scope} {cl : List (Str × Addr)}

theorem turns_filt (h : ∀ (h₂ : Heap) I C D i v ys g' oI oC (m₂ : Str → Option Value) led h tk, i < n → P i v → K i led → Slid (fra outer) g g' → Below A₀ base outer g' → Fr g' L h m → NsObj oC m₂ → m₂ x = some v → News g' L h ((I, oI) :: (C, oC) :: (D, lst ys) :: led) → ((@Ne Nat I C) ∧ (@Ne Nat I D) ∧ (@Ne Nat C D)) → Off I C D led →
      wpAny (MG w) A (isTrue c (compEnvC scope cl C env) (eval c (compEnvC scope cl C env))) (fun ok s₃ => ok = p i ∧ Turn outer g' L m { s with heap := h₂ } I oI C oC D (lst ys) (K (i + 1)) s₃) (fun _ _ => False) { s with heap := h, toks := tk })
    (hk : (compEnvC scope cl L env).scope.kind = .function) (hx : (compEnvC scope cl L env).kindOf x = some .local) (hb : (x == ("__debug__" : Str)) = false) :
    Turns w A A₀ base outer g L m s n P x [c] (.Name x p1) (fun i ys led => Sel P p i ys ∧ K i led) scope cl env := by
  intro h₂ I C D i v ys g' oI oC m₂ led h' tk hi hP hJ Sl B' F' hC hx2 N' ne off
  refine wpAny_tests_one (wpAny_mono (h h₂ I C D i v ys g' oI oC m₂ led h' tk hi hP hJ.2 Sl B' F' hC hx2 N' ne off) (fun ok s₃ hf => ?_) fun _ _ q => q)
  obtain ⟨rfl, g3, led3, h3, tk3, rfl, S3, F3, N3, off3, k3⟩ := hf
  cases hp : p i with
  | false => simp only [Bool.false_eq_true, if_false]; exact ⟨g3, led3, h3, tk3, rfl, S3, F3, N3, off3, .no hp hJ.1, k3⟩
  | true =>
    simp only [if_true]
    refine LCgL.ld_own N3 (.tail _ (.head _)) hC hx2 ?_ hk hx hb
    exact ⟨g3, led3, h3, tk3, rfl, S3, F3, N3, off3, .yes hp hP hJ.1, k3⟩

variable {xv : Value} {pos : Pos} {iter : PySem.Expr} {E : Value → Shared → Prop} {Q : Value → Shared → Prop}
theorem filt_pure (p : Nat → Bool) (So : Source w A g L m s news xv S n P) (hfs : ∀ q ∈ S, q ∈ news) (hn : n ≤ sizeLine) (B : Below A₀ base outer g)
    (h : ∀ (h₂ : Heap) I C D i v ys g' oI oC (m₂ : Str → Option Value) h tk, i < n → P i v → Slid (fra outer) g g' → Below A₀ base outer g' → Fr g' L h m → NsObj oC m₂ → m₂ x = some v → News g' L h ((I, oI) :: (C, oC) :: (D, lst ys) :: news) → ((@Ne Nat I C) ∧ (@Ne Nat I D) ∧ (@Ne Nat C D)) → Off I C D news →
      wpAny (MG w) A (isTrue c (compEnvC scope cl C env) (eval c (compEnvC scope cl C env))) (fun ok s₃ => ok = p i ∧ Turn outer g' L m { s with heap := h₂ } I oI C oC D (lst ys) (fun l => l = news) s₃) (fun _ _ => False) { s with heap := h, toks := tk })
    (fin : ∀ ys D g' h tk, Sel P p n ys → Slid (fra outer) g g' → Below A₀ base outer g' → Fr g' L h m → News g' L h ((D, lst ys) :: news) → (∀ q ∈ news, q.1 ≠ D) → Q (.ref D) { s with heap := h, toks := tk })
    (hcell : ∀ y ∈ scope.names, y.2 ≠ .cell) (hkind : scope.kind = .function) (hx : scope.names.lookup x = some .local) (hb : (x == ("__debug__" : Str)) = false) :
    Src w A E (.Name x p1) x px iter [c] scope pos cl env (compPost (MG w) A E none Q) xv s :=
  src_E So hfs (fun i ys led => (Sel P p i ys ∧ i ≤ n) ∧ led = news) (fun i ys led hj q hq => hj.2 ▸ hfs q hq) (fun i ys led hj => Nat.le_trans hj.1.1.len (Nat.le_trans hj.1.2 hn)) B ⟨⟨.zero, Nat.zero_le _⟩, rfl⟩
    (fun h₂ I C D i v ys g' oI oC m₂ led h' tk hi hP hJ Sl B' F' hC hx2 N' ne off => by
      obtain ⟨⟨hs, _⟩, rfl⟩ := hJ
      refine wpAny_tests_one (wpAny_mono (h h₂ I C D i v ys g' oI oC m₂ h' tk hi hP Sl B' F' hC hx2 N' ne off) (fun ok s₃ hf => ?_) fun _ _ q => q)
      obtain ⟨rfl, g3, led3, h3, tk3, rfl, S3, F3, N3, off3, rfl⟩ := hf
      cases hp : p i with
      | false => simp only [Bool.false_eq_true, if_false]; exact ⟨g3, _, h3, tk3, rfl, S3, F3, N3, off3, ⟨.no hp hs, hi⟩, rfl⟩
      | true =>
        simp only [if_true]
        refine LCgL.ld_own N3 (.tail _ (.head _)) hC hx2 ?_ hkind (lookup_relabel_local hx) hb
        exact ⟨g3, _, h3, tk3, rfl, S3, F3, N3, off3, ⟨.yes hp hP hs, hi⟩, rfl⟩)
    (fun ys D g' led h5 tk hj Sl B' F' N' off => by obtain ⟨⟨hs, _⟩, rfl⟩ := hj; exact fin ys D g' h5 tk hs Sl B' F' N' off) hcell hkind hx

theorem map_pure (R : Nat → Value → Prop) (So : Source w A g L m s news xv S n P) (hfs : ∀ q ∈ S, q ∈ news) (hn : n ≤ sizeLine) (B : Below A₀ base outer g)
    (h : ∀ (h₂ : Heap) I C D i v ys g' oI oC (m₂ : Str → Option Value) h tk, i < n → P i v → Slid (fra outer) g g' → Below A₀ base outer g' → Fr g' L h m → NsObj oC m₂ → m₂ x = some v → News g' L h ((I, oI) :: (C, oC) :: (D, lst ys) :: news) → ((@Ne Nat I C) ∧ (@Ne Nat I D) ∧ (@Ne Nat C D)) → Off I C D news →
      wpAny (MG w) A (eval elt (compEnvC scope cl C env)) (fun y s₃ => R i y ∧ Turn outer g' L m { s with heap := h₂ } I oI C oC D (lst ys) (fun l => l = news) s₃) (fun _ _ => False) { s with heap := h, toks := tk })
    (fin : ∀ ys D g' h tk, Sel R (fun _ => true) n ys → Slid (fra outer) g g' → Below A₀ base outer g' → Fr g' L h m → News g' L h ((D, lst ys) :: news) → (∀ q ∈ news, q.1 ≠ D) → Q (.ref D) { s with heap := h, toks := tk })
    (hcell : ∀ y ∈ scope.names, y.2 ≠ .cell) (hkind : scope.kind = .function) (hx : scope.names.lookup x = some .local) :
    Src w A E elt x px iter [] scope pos cl env (compPost (MG w) A E none Q) xv s :=
  src_E So hfs (fun i ys led => (Sel R (fun _ => true) i ys ∧ i ≤ n) ∧ led = news) (fun i ys led hj q hq => hj.2 ▸ hfs q hq) (fun i ys led hj => Nat.le_trans hj.1.1.len (Nat.le_trans hj.1.2 hn)) B ⟨⟨.zero, Nat.zero_le _⟩, rfl⟩
    (fun h₂ I C D i v ys g' oI oC m₂ led h' tk hi hP hJ Sl B' F' hC hx2 N' ne off => by
      obtain ⟨⟨hs, _⟩, rfl⟩ := hJ
      refine wpAny_tests_nil ?_
      simp only [if_true]
      refine wpAny_mono (h h₂ I C D i v ys g' oI oC m₂ h' tk hi hP Sl B' F' hC hx2 N' ne off) (fun y s₃ hf => ?_) fun _ _ q => q
      obtain ⟨hr, g3, led3, h3, tk3, rfl, S3, F3, N3, off3, rfl⟩ := hf
      exact ⟨g3, _, h3, tk3, rfl, S3, F3, N3, off3, ⟨.yes rfl hr hs, hi⟩, rfl⟩)
    (fun ys D g' led h5 tk hj Sl B' F' N' off => by obtain ⟨⟨hs, _⟩, rfl⟩ := hj; exact fin ys D g' h5 tk hs Sl B' F' N' off) hcell hkind hx

theorem ints_at {vs : List Value} {ns : List Int} (h : IntsAre vs ns) : ∀ {i : Nat} {v : Value}, vs[i]? = some v → ∃ t, v = .int (ns.getD i 0) t := by
  induction h with
  | nil => intro i v h; cases h
  | cons k t r ih =>
    intro i v h
    cases i with
    | zero => cases h; exact ⟨t, rfl⟩
    | succ i => exact ih h
theorem filter_getD (q : Int → Bool) (l : List Int) : ((List.range l.length).filter fun i => q (l.getD i 0)).map (fun i => l.getD i 0) = l.filter q := filter_at q l

theorem filtIn {vs us : List Value} {ns ms : List Int} {k k2 : Nat} {ax lw cc : Addr} {oc : Obj} {y : Str} {p2 p3 p4 : Pos} (hh : A.handled = none) (F : Fr g L s.heap m) (N : News g L s.heap news) (hm : (ax, W.listOf vs.toArray k) ∈ news) (hi : IntsAre vs ns)
    (hc : cl.lookup y = some cc) (hmc : (cc, oc) ∈ news) (hdc : oc.data = .cell (some (.ref lw))) (hml : (lw, W.listOf us.toArray k2) ∈ news) (hi2 : IntsAre us ms) (hn : ns.length ≤ sizeLine) (B : Below A₀ base outer g)
    (fin : ∀ ys D g' h tk, IntsAre ys (ns.filter fun a => decide (a ∈ ms)) → Slid (fra outer) g g' → Below A₀ base outer g' → Fr g' L h m → News g' L h ((D, lst ys) :: news) → (∀ q ∈ news, q.1 ≠ D) → Q (.ref D) { s with heap := h, toks := tk })
    (hcell : ∀ y ∈ scope.names, y.2 ≠ .cell) (hkind : scope.kind = .function) (hx : scope.names.lookup x = some .local) (hb : (x == ("__debug__" : Str)) = false)
    (hky : (compEnvC scope cl L env).kindOf y = some .cell) (hyb : (y == ("__debug__" : Str)) = false) :
    Src w A E (.Name x p1) x px iter [.Compare (.Name x p2) [.In] [.Name y p3] p4] scope pos cl env (compPost (MG w) A E none Q) (.ref ax) s := by
  have hl := hi.length
  refine filt_pure (fun j => decide (ns.getD j 0 ∈ ms)) (source_list hh F N hm) (fun q hq => by rw [List.mem_singleton.mp hq]; exact hm) (by rw [List.size_toArray, hl]; exact hn) B (fun h₂ I C D i v ys g' oI oC m₂ h tk hi' hP Sl B' F' hC hx2 N' ne off => ?_) (fun ys D g' h tk hs Sl B' F' N' off => fin ys D g' h tk ?_ Sl B' F' N' off) hcell hkind hx hb
  · obtain ⟨t, rfl⟩ := ints_at hi (by simpa using hP)
    refine wpAny_isTrue_Compare1 (LCgL.ld_own N' (.tail _ (.head _)) hC hx2 (lcf_cell N' hc (.tail _ (.tail _ (.tail _ hmc))) hdc (in_ints (listAt N' (.tail _ (.tail _ (.tail _ hml)))) hi2 (wpAny_truthy_bool ⟨rfl, g', _, h, tk, rfl, Slid.refl .., F', N', off, rfl⟩)) hkind hky hyb) hkind (lookup_relabel_local hx) hb)
  · have := Sel.ints (f := fun j => ns.getD j 0) (Sel.mono (R' := fun j v => ∃ t, v = .int (ns.getD j 0) t) (fun j v _ hv => ints_at hi (by simpa using hv)) hs)
    rw [List.size_toArray, hl, filter_getD (fun a => decide (a ∈ ms)) ns] at this
    exact this
end
end Mine
end

section
open PySem PySem.Spec PySem.Calls PySem.W PyProof.Rows PyProof.Rows.LCg PySem.SeqAt
set_option Elab.async false
set_option maxRecDepth 100000
set_option maxHeartbeats 8000000
set_option linter.unusedVariables false
namespace Mine
section
variable {w : World} {A A₀ : Around} {base g : Heap} {outer : List Env} {L : Addr} {m : Str → Option Value} {s : Shared} {news S : List (Addr × Obj)} {n : Nat} {P : Nat → Value → Prop} {env : Env} {x : Str} {px : Pos} {elt c iter : PySem.Expr} {scope : Scope} {cl : List (Str × Addr)} {xv : Value} {pos : Pos} {E : Value → Shared → Prop} {Q : Value → Shared → Prop}
inductive PartF (outer : List Env) (g : Heap) (L : Addr) (m : Str → Option Value) (f : Heap → Nat → Shared) (led : List (Addr × Obj)) (R : Prop) (s' : Shared) : Prop
  | mk (r : R) (g' : Heap) (h' : Heap) (tk' : Nat) (e : s' = f h' tk') (S : Slid (fra outer) g g') (F : Fr g' L h' m) (N : News g' L h' led) : PartF outer g L m f led R s'
noncomputable def PartEnd (outer : List Env) (g : Heap) (L : Addr) (m : Str → Option Value) (s : Shared) (led : List (Addr × Obj)) (R : Prop) (s' : Shared) : Prop := PartF outer g L m (fun h t => { s with heap := h, toks := t }) led R s'
theorem PartEnd.intro {g' h' : Heap} {tk' : Nat} {led all : List (Addr × Obj)} {R : Prop} (r : R) (S : Slid (fra outer) g g') (F : Fr g' L h' m) (N : News g' L h' all) (sub : ∀ q ∈ led, q ∈ all) : PartEnd outer g L m s led R { s with heap := h', toks := tk' } := ⟨r, g', h', tk', rfl, S, F, fun q hq => N q (sub q hq)⟩
theorem fm_pure (p : Nat → Bool) (R : Nat → Value → Prop) (So : Source w A g L m s news xv S n P) (hfs : ∀ q ∈ S, q ∈ news) (hn : n ≤ sizeLine) (B : Below A₀ base outer g)
    (ht : ∀ I C D i v ys g' oI oC (m₂ : Str → Option Value) h tk, i < n → P i v → Slid (fra outer) g g' → Below A₀ base outer g' → Fr g' L h m → NsObj oC m₂ → m₂ x = some v → News g' L h ((I, oI) :: (C, oC) :: (D, lst ys) :: news) → ((@Ne Nat I C) ∧ (@Ne Nat I D) ∧ (@Ne Nat C D)) → Off I C D news →
      wpAny (MG w) A (isTrue c (compEnvC scope cl C env) (eval c (compEnvC scope cl C env))) (fun ok s₃ => PartEnd outer g' L m s ((I, oI) :: (C, oC) :: (D, lst ys) :: news) (ok = p i) s₃) (fun _ _ => False) { s with heap := h, toks := tk })
    (he : ∀ I C D i v ys g' oI oC (m₂ : Str → Option Value) h tk, i < n → p i = true → P i v → Slid (fra outer) g g' → Below A₀ base outer g' → Fr g' L h m → NsObj oC m₂ → m₂ x = some v → News g' L h ((I, oI) :: (C, oC) :: (D, lst ys) :: news) → ((@Ne Nat I C) ∧ (@Ne Nat I D) ∧ (@Ne Nat C D)) → Off I C D news →
      wpAny (MG w) A (eval elt (compEnvC scope cl C env)) (fun y s₃ => PartEnd outer g' L m s ((I, oI) :: (C, oC) :: (D, lst ys) :: news) (R i y) s₃) (fun _ _ => False) { s with heap := h, toks := tk })
    (fin : ∀ ys D g' h tk, Sel R p n ys → Slid (fra outer) g g' → Below A₀ base outer g' → Fr g' L h m → News g' L h ((D, lst ys) :: news) → (∀ q ∈ news, q.1 ≠ D) → Q (.ref D) { s with heap := h, toks := tk })
    (hcell : ∀ y ∈ scope.names, y.2 ≠ .cell) (hkind : scope.kind = .function) (hx : scope.names.lookup x = some .local) :
    Src w A E elt x px iter [c] scope pos cl env (compPost (MG w) A E none Q) xv s :=
  src_E So hfs (fun i ys led => (Sel R p i ys ∧ i ≤ n) ∧ led = news) (fun i ys led hj q hq => hj.2 ▸ hfs q hq) (fun i ys led hj => Nat.le_trans hj.1.1.len (Nat.le_trans hj.1.2 hn)) B ⟨⟨.zero, Nat.zero_le _⟩, rfl⟩
    (fun h₂ I C D i v ys g' oI oC m₂ led h' tk hi hP hJ Sl B' F' hC hx2 N' ne off => by
      obtain ⟨⟨hs, _⟩, rfl⟩ := hJ
      refine wpAny_tests_one (wpAny_mono (ht I C D i v ys g' oI oC m₂ h' tk hi hP Sl B' F' hC hx2 N' ne off) (fun ok s₃ hf => ?_) fun _ _ q => q)
      obtain ⟨rfl, g3, h3, tk3, rfl, S3, F3, N3⟩ := hf
      cases hp : p i with
      | false => simp only [Bool.false_eq_true, if_false]; exact ⟨g3, _, h3, tk3, rfl, S3, F3, N3, off, ⟨.no hp hs, hi⟩, rfl⟩
      | true =>
        simp only [if_true]
        refine wpAny_mono (he I C D i v ys g3 oI oC m₂ h3 tk3 hi hp hP (Sl.trans S3) (below_slid B' S3) F3 hC hx2 N3 ne off) (fun y s₄ hf => ?_) fun _ _ q => q
        obtain ⟨hr, g4, h4, tk4, rfl, S4, F4, N4⟩ := hf
        exact ⟨g4, _, h4, tk4, rfl, S3.trans S4, F4, N4, off, ⟨.yes hp hr hs, hi⟩, rfl⟩)
    (fun ys D g' led h5 tk hj Sl B' F' N' off => by obtain ⟨⟨hs, _⟩, rfl⟩ := hj; exact fin ys D g' h5 tk hs Sl B' F' N' off) hcell hkind hx
end

theorem any_mem {b : Int} {l : List Int} : (l.any fun x => x == b) = decide (b ∈ l) := by
  induction l with
  | nil => simp
  | cons x r ih =>
    simp only [List.any_cons, ih]
    by_cases h : x = b
    · simp [h]
    · simp [h, Ne.symm h]
/-! first occurrences -/
theorem dd_step (l : List Int) (i : Nat) (hi : i < l.length) : let r := fun i => ((List.range i).filter fun j => !decide (l.getD j 0 ∈ l.take j)).map fun j => l.getD j 0
    (r i).Nodup ∧ (∀ x, x ∈ r i ↔ x ∈ l.take i) → (r (i + 1)).Nodup ∧ (∀ x, x ∈ r (i + 1) ↔ x ∈ l.take (i + 1)) := by
  intro r ⟨h1, h2⟩
  have e : l.getD i 0 = l[i] := by simp [List.getD_eq_getElem?_getD, List.getElem?_eq_getElem hi]
  have et : l.take (i + 1) = l.take i ++ [l[i]] := by rw [List.take_add_one, List.getElem?_eq_getElem hi]; rfl
  have er : r (i + 1) = r i ++ if l[i] ∈ l.take i then [] else [l[i]] := by
    show List.map _ (List.filter _ (List.range (i + 1))) = _
    rw [range_filter_succ, List.map_append]
    congr 1
    rw [e]
    by_cases h : l[i] ∈ l.take i
    · simp [h]
    · simp [h, List.getElem?_eq_getElem hi]
  rw [er, et]
  by_cases h : l[i] ∈ l.take i
  · simp only [h, if_true, List.append_nil]
    refine ⟨h1, fun x => ?_⟩
    rw [h2, List.mem_append, List.mem_singleton]
    exact ⟨.inl, fun q => q.elim id fun e => e ▸ h⟩
  · simp only [h, if_false]
    refine ⟨List.nodup_append.mpr ⟨h1, by simp, fun a ha b hb e => ?_⟩, fun x => by rw [List.mem_append, List.mem_append, h2]⟩
    rw [List.mem_singleton.mp hb] at e
    exact h (e ▸ (h2 a).mp ha)
theorem dd_all (l : List Int) : ∀ i, i ≤ l.length → (((List.range i).filter fun j => !decide (l.getD j 0 ∈ l.take j)).map fun j => l.getD j 0).Nodup ∧ ∀ x, x ∈ (((List.range i).filter fun j => !decide (l.getD j 0 ∈ l.take j)).map fun j => l.getD j 0) ↔ x ∈ l.take i
  | 0, _ => by simp
  | i + 1, h => dd_step l i h (dd_all l i (Nat.le_of_succ_le h))
theorem nodup_len : ∀ (s r : List Int), s.Nodup → (∀ x ∈ s, x ∈ r) → s.length ≤ r.length
  | [], r, _, _ => Nat.zero_le _
  | a :: s, r, h, k => by
    have ha := k a (.head _)
    have h' := List.nodup_cons.mp h
    have := nodup_len s (r.erase a) h'.2 fun x hx => (List.mem_erase_of_ne (fun (e : x = a) => h'.1 (e ▸ hx))).mpr (k x (.tail _ hx))
    rw [List.length_erase_of_mem ha] at this
    have hp : 0 < r.length := List.length_pos_of_mem ha
    simp only [List.length_cons]; omega
theorem four_of (l r : List Int) (h1 : r.Nodup) (h2 : ∀ x, x ∈ r ↔ x ∈ l) (h3 : ∀ x ∈ [(1 : Int), 0, 2, 4], x ∈ l) (h4 : ∀ x ∈ l, 0 ≤ x ∧ x ≤ 9) :
    ∃ a b c d, r.take 4 = [a, b, c, d] ∧ [a, b, c, d].Nodup ∧ ∀ x ∈ [a, b, c, d], 0 ≤ x ∧ x ≤ 9 := by
  have hl := nodup_len [(1 : Int), 0, 2, 4] r (by decide) fun x hx => (h2 x).mpr (h3 x hx)
  match r, hl, h1, h2 with
  | a :: b :: c :: d :: r', _, h1, h2 =>
    refine ⟨a, b, c, d, rfl, ?_, fun x hx => h4 x ((h2 x).mp ?_)⟩
    · exact List.Nodup.sublist (List.take_sublist 4 (a :: b :: c :: d :: r')) h1
    · exact List.mem_of_mem_take (i := 4) hx
end Mine
end

section
open PySem PySem.Spec PySem.Calls PySem.W PyProof.Rows
set_option Elab.async false
set_option maxRecDepth 100000
set_option maxHeartbeats 400000
set_option linter.unusedVariables false
namespace Mine
theorem hide1 {α : Type} {M : Model} {A : Around} {t : Sem α} {Q : α → Shared → Prop} {E : Value → Shared → Prop} {s : Shared}
    (h : ∀ (Q' : α → Shared → Prop), (∀ v s', Q v s' → Q' v s') → wpAny M A t Q' E s) : wpAny M A t Q E s := h Q (fun _ _ h => h)
theorem hideQ {α : Type} {M : Model} {A : Around} {t : Sem α} {Q : α → Shared → Prop} {E : Value → Shared → Prop} {s : Shared}
    (h : ∀ (Q' : α → Shared → Prop) (E' : Value → Shared → Prop), (∀ v s', Q v s' → Q' v s') → (∀ v s', E v s' → E' v s') → wpAny M A t Q' E' s) : wpAny M A t Q E s := h Q E (fun _ _ h => h) fun _ _ h => h
theorem seq_cut2 {M : Model} {A : Around} {env : Env} {st st2 : Stmt} {rest : List Stmt} {Q : Flow → Shared → Prop} {E : Value → Shared → Prop} {s : Shared} (P : Shared → Prop)
    (h1 : wpAny M A (exec st env) (fun f s' => f = .next ∧ wpAny M A (exec st2 env) (fun f s'' => f = .next ∧ P s'') E s') E s) (h2 : ∀ s', P s' → wpAny M A (execs rest env) Q E s') : wpAny M A (execs (st :: st2 :: rest) env) Q E s :=
  wpAny_execs_cons (wpAny_mono h1 (fun f s' h => by
    obtain ⟨rfl, h⟩ := h
    exact wpAny_execs_cons (wpAny_mono h (fun f s' h => by obtain ⟨rfl, h⟩ := h; exact h2 s' h) fun _ _ e => e)) fun _ _ e => e)
section
variable {α : Type} {a b : α} {A B C l m : List α}
theorem sub_nil : ∀ q ∈ ([] : List α), q ∈ B := fun _ h => nomatch h
theorem sub_cons (h : a ∈ B) (h' : ∀ q ∈ l, q ∈ B) : ∀ q ∈ a :: l, q ∈ B := List.forall_mem_cons.mpr ⟨h, h'⟩
theorem all_cons {P : α → Prop} (h : P a) (h' : ∀ q ∈ l, P q) : ∀ q ∈ a :: l, P q := List.forall_mem_cons.mpr ⟨h, h'⟩
theorem sub_app (h : ∀ q ∈ l, q ∈ B) (h' : ∀ q ∈ m, q ∈ B) : ∀ q ∈ l ++ m, q ∈ B := fun q hq => (List.mem_append.mp hq).elim (h q) (h' q)
theorem sub_refl : ∀ q ∈ B, q ∈ B := fun _ h => h
theorem sub_tail (h : ∀ q ∈ A, q ∈ B) : ∀ q ∈ A, q ∈ b :: B := fun q hq => .tail _ (h q hq)
theorem sub_left (h : ∀ q ∈ A, q ∈ B) : ∀ q ∈ A, q ∈ B ++ C := fun q hq => List.mem_append_left _ (h q hq)
theorem sub_right (h : ∀ q ∈ A, q ∈ C) : ∀ q ∈ A, q ∈ B ++ C := fun q hq => List.mem_append_right _ (h q hq)
end
end Mine
end

section
open PySem PySem.Spec PySem.Calls PySem.W PyProof.Rows PyProof.Rows.LCg PySem.SeqAt
set_option Elab.async false
set_option maxRecDepth 100000
set_option maxHeartbeats 2000000
set_option linter.unusedVariables false
namespace Mine
theorem meets_bool_list (l : Addr) (items : Array Value) (hfit : (items.size : Int) < 2 ^ 63) :
    Meets (Builtin.«bool.__new__» ⟨[.type "bool", .ref l], []⟩) (fun _ R s => s.heap.IsList l items ∧ ∀ tk, R (.ok (.ret (.bool (!items.isEmpty)))) { s with toks := tk }) :=
  Meets.of_wp fun prog w A R s hs => by
    obtain ⟨hl, hs⟩ := hs
    obtain ⟨hp, g, d, tk, os⟩ := s
    have f1 := F.conv_sub_bool
    repeat (any_goals (first | assumption | (with_reducible refine wpAny_truthy_list hl hfit ?_) | wp_step))
    all_goals first | exact ⟨_, rfl, hs _⟩ | exact hs _ | skip
section
variable {prog : Program} {w : World} {A : Around} {E : Value → Shared → Prop} {s : Shared}
theorem call_bool_list {l : Addr} {items : Array Value} {Q : Value → Shared → Prop} (hl : s.heap.IsList l items) (hfit : (items.size : Int) < 2 ^ 63) (h : ∀ tk, Q (.bool (!items.isEmpty)) { s with toks := tk }) :
    wpAny (model prog w) A (call (.type "bool") [.ref l]) Q E s :=
  call_bool_1 (meets_bool_list l items hfit) ⟨hl, fun tk => (show wants (fun obj s₁ => s₁.TypeIs obj "bool" ∧ Q obj s₁) E _ _ from ⟨rfl, h tk⟩)⟩
end
section
variable {w : World} {A A₀ : Around} {base g : Heap} {outer : List Env} {L : Addr} {m : Str → Option Value} {s : Shared} {news S : List (Addr × Obj)} {n : Nat} {P : Nat → Value → Prop}
theorem clear_any {prog : Program} {w : World} {A : Around} {E : Value → Shared → Prop} {s : Shared} {h₀ : Heap} {L D : Addr} {m : Str → Option Value} {news news' : List (Addr × Obj)} {its : Array Value} {n : Nat} {Q : Value → Shared → Prop} (F : Fr h₀ L s.heap m) (N : News h₀ L s.heap news) (U : Upd D (W.listOf its n) (W.listOf #[] (if its.size = 0 then n else n + 1)) news news') (hz : its.size ≤ sizeLine)
    (h : ∀ h', Fr h₀ L h' m → News h₀ L h' news' → Q .none { s with heap := h' }) : wpAny (model prog w) A (call (.builtin "list.clear") [.ref D]) Q E s := by
  by_cases e : its.size = 0
  · rw [if_pos e] at U
    obtain ⟨pre, post, rfl, rfl, a, c⟩ := U.split
    have z := N (D, W.listOf its n) (List.mem_append.mpr (.inr (.head _)))
    exact call_meets PySem.F.slot_list_clear ⟨_, z.1, rfl⟩ PySem.F.entry_list_clear (PySem.F.args_list_clear_1 _) (PySem.AutoSeq1.list_clear_list_0 D its n hz) ⟨z.1, h _ (F.change (Heap.SameBut.update ..) z.2.1 z.2.2) (kl_turn0 (fun _ => #[]) N a c rfl (by rw [e]; rfl))⟩
  · rw [if_neg e] at U
    exact kl_clear F N U (by rw [Array.length_toList]; exact e) (by rw [Array.length_toList]; exact hz) h
noncomputable abbrev tupOf (its : Array Value) (k : Nat) : Obj := { cls := .type "tuple", data := .seq its k }
theorem source_tuple {ax : Addr} {its : Array Value} {k : Nat} (hh : A.handled = none) (F : Fr g L s.heap m) (N : News g L s.heap news) (hm : (ax, tupOf its k) ∈ news) :
    Source w A g L m s news (.ref ax) [(ax, tupOf its k)] its.size (fun i v => its[i]? = some v) := fun Q E h => by
  have hl : s.heap.IsTuple ax its := ⟨_, (N _ hm).1, rfl, _, rfl⟩
  have hlt : ax < s.heap.objs.size := Heap.lt_size (N _ hm).1
  have up : ∀ b o, s.heap.get? b = some o → (s.heap.push { cls := .type "tuple_iterator", data := .fields #[.ref ax, .int 0 0] }).get? b = some o := fun b o e => Heap.get?_push_of_some _ e
  refine wpAny_pyIter_tuple hl (h s.heap.objs.size { cls := .type "tuple_iterator", data := .fields #[.ref ax, .int 0 0] } _ _ _ (Walks.tuple hh s.heap.objs.size ax (Nat.ne_of_lt hlt) its) (fun i h st => by obtain ⟨o, e, _⟩ := st.1; exact ⟨o, e⟩) (fun b hb => ?_) ⟨⟨_, Heap.get?_push_size _ rfl, rfl, rfl⟩, hl.push _⟩ (F.keeps up) (fun q hq => ?_) fun q hq => Nat.ne_of_lt (Heap.lt_size (N q hq).1))
  · revert b; refine all_cons (.inl rfl) ?_; intro b hb; exact .inr ⟨_, by rw [List.mem_singleton.mp hb]; exact .head _⟩
  · revert q; refine all_cons (⟨Heap.get?_push_size _ rfl, Ne.symm (Nat.ne_of_lt F.ns.lt), next_is_new F⟩) ?_; intro q hq; exact ⟨up _ _ (N q hq).1, (N q hq).2⟩
end
end Mine
end

section
open PySem PySem.Spec PySem.Calls PySem.W PyProof.Rows PyProof.Rows.LCg PySem.SeqAt
set_option Elab.async false
set_option maxRecDepth 100000
set_option maxHeartbeats 2000000
set_option linter.unusedVariables false
namespace Mine
structure Nd where
  key : Int
  kt : Tok
  ia : Addr
  da : Addr
  np : Int
  nt : Tok
  sa : Addr
  vs : List Value
  ct : Nat
noncomputable abbrev Nd.obj (n : Nd) : Obj := ⟨.ref 40, some n.da, .plain, #[some (.int n.key n.kt), some (.int n.np n.nt), some (.ref n.sa)]⟩
noncomputable abbrev Nd.led (n : Nd) : List (Addr × Obj) := [(n.ia, n.obj), (n.da, emptyDict), (n.sa, W.listOf n.vs.toArray n.ct)]
noncomputable def nled (l : List Nd) : List (Addr × Obj) := l.flatMap Nd.led
noncomputable def kvOf (l : List Nd) : List (Int × Value) := l.map fun n => (n.key, .ref n.ia)
structure Sd where
  e1 : Int
  k1 : Tok
  e2 : Int
  k2 : Tok
  e3 : Int
  k3 : Tok
  t3 : Tok
  e4 : Int
  k4 : Tok
  t4 : Tok

noncomputable abbrev sdict (d : Sd) (N2 : Addr) (r : Value) (p f : Int) : Obj := dictOf [⟨d.e1, .str (Str.ofString "_node2info") d.k1, .ref N2⟩, ⟨d.e2, .str (Str.ofString "_ready_nodes") d.k2, r⟩, ⟨d.e3, .str (Str.ofString "_npassedout") d.k3, .int p d.t3⟩, ⟨d.e4, .str (Str.ofString "_nfinished") d.k4, .int f d.t4⟩] 4

theorem ints_isEmpty {vs : List Value} {ns : List Int} (h : IntsAre vs ns) : vs.isEmpty = ns.isEmpty := by cases h <;> rfl
section
variable {w : World} {base : Heap} {p : Program} {loose : List Str} {mean : ExcName → Option Value} {mg mb : Str → Option Value}
theorem active_con (X : (k0.heap_1 w.params).In base) (T : Top p loose mean mg mb base) (S dS N2 R : Addr) (d : Sd) (np nf : Int) (rv : List Value) (ns : List Int) (hr : IntsAre rv ns) (hrl : ns.length ≤ 4) (n : Nat) :
    Con w base 106 [.ref S] 2 [(S, instObj 137 dS), (dS, sdict d N2 (.ref R) np nf), (R, W.listOf rv.toArray n)] (fun v l => v = .bool (decide (nf < np) || !ns.isEmpty) ∧ l = [(S, instObj 137 dS), (dS, sdict d N2 (.ref R) np nf), (R, W.listOf rv.toArray n)]) (fun _ _ => False) := by
  k_with_none
  refine' Con.of (binds := [(Str.ofString "self", .ref S)]) X T ?ho ?hcd ?hb ?hl ?h ?c2 ?c3 ?c4 ?c5
  k_dflt ((case ho => k_is); (case hcd => k_is); (case hb => exact fun _ => BindsTo.of_eq rfl); (case hl => exact locs rfl); (case c2 => exact rfl); (case c3 => exact rfl); (case c4 => exact rfl); (case c5 => decide))
  intro dp envs gd un s g L h₁ tk hdp hun B Xg Tg F N hlt
  try k_fold
  k_steps
  · show BodyQ g L envs s _ (.ret (.bool (decide (nf < np)))) _
    refine ⟨_, _, _, _, _, rfl, Slid.refl .., F, N, ?_, rfl⟩
    rename_i hc
    show Value.bool (decide (nf < np)) = _
    simp [hc]
  · rename_i hc
    refine call_bool_list ⟨_, (N _ (.tail _ (.tail _ (.head _)))).1, rfl, _, rfl⟩ ?_ fun tk2 => ?_
    · have := hr.length
      rw [List.size_toArray]; omega
    k_steps
    show BodyQ g L envs s _ (.ret (.bool _)) _
    refine ⟨_, _, _, _, _, rfl, Slid.refl .., F, N, ?_, rfl⟩
    have := ints_isEmpty hr
    simp [hc, this]
end
end Mine
end

section
open PySem PySem.Spec PySem.Calls PySem.W PyProof.Rows PyProof.Rows.LCg PySem.SeqAt
set_option Elab.async false
set_option maxRecDepth 100000
set_option maxHeartbeats 400000
set_option linter.unusedVariables false
namespace Mine
noncomputable abbrev Pn := Int × Int × List Int
inductive Rp : List Nd → List Pn → Prop
  | nil : Rp [] []
  | cons {n : Nd} {l : List Nd} {q : Pn} {ns : List Pn} : n.key = q.1 → n.np = q.2.1 → IntsAre n.vs q.2.2 → Rp l ns → Rp (n :: l) (q :: ns)
noncomputable def npOf : List Pn → Int → Int
  | [], _ => 0
  | q :: r, k => if q.1 = k then q.2.1 else npOf r k
noncomputable def suOf : List Pn → Int → List Int
  | [], _ => []
  | q :: r, k => if q.1 = k then q.2.2 else suOf r k
noncomputable def setNp (k v : Int) (ns : List Pn) : List Pn := ns.map fun q => if q.1 = k then (q.1, v, q.2.2) else q
noncomputable def keysN (ns : List Pn) : List Int := ns.map (·.1)
theorem Rp.keys {l : List Nd} {ns : List Pn} (h : Rp l ns) : l.map (·.key) = keysN ns := by
  induction h with
  | nil => rfl
  | cons h _ _ r ih => simp only [List.map_cons, keysN]; rw [h]; congr 1
theorem keysN_set (k v : Int) (ns : List Pn) : keysN (setNp k v ns) = keysN ns := by
  unfold keysN setNp
  rw [List.map_map]
  refine List.map_congr_left fun q _ => ?_
  show (if q.1 = k then (q.1, v, q.2.2) else q).1 = q.1
  split <;> rfl
theorem nd_split : ∀ {l : List Nd} {k : Int}, k ∈ l.map (·.key) → ∃ l1 n l2, l = l1 ++ n :: l2 ∧ n.key = k ∧ k ∉ l1.map (·.key)
  | [], k, h => by cases h
  | a :: l, k, h => by
    by_cases e : a.key = k
    · exact ⟨[], a, l, rfl, e, by simp⟩
    · have : k ∈ l.map (·.key) := by
        rcases List.mem_cons.mp h with e' | h
        · exact absurd e'.symm e
        · exact h
      obtain ⟨l1, n, l2, rfl, h1, h2⟩ := nd_split this
      exact ⟨a :: l1, n, l2, rfl, h1, by simp only [List.map_cons, List.mem_cons, not_or]; exact ⟨fun q => e q.symm, h2⟩⟩
theorem kv_at {l1 l2 : List Nd} {n : Nd} (h : n.key ∉ l1.map (·.key)) : valueAt (kvOf (l1 ++ n :: l2)) n.key = some (.ref n.ia) := by
  induction l1 with
  | nil => simp [kvOf, valueAt]
  | cons a l1 ih =>
    simp only [List.map_cons, List.mem_cons, not_or] at h
    have := ih h.2
    unfold valueAt kvOf at this ⊢
    simp only [List.cons_append, List.map_cons, List.find?_cons]
    rw [show decide ((a.key, Value.ref a.ia).1 = n.key) = false from decide_eq_false (fun e => h.1 e.symm)]
    exact this
theorem kv_none {l : List Nd} {k : Int} (h : k ∉ l.map (·.key)) : valueAt (kvOf l) k = none := by
  unfold valueAt kvOf
  rw [Option.map_eq_none_iff, List.find?_eq_none]
  intro x hx
  obtain ⟨n, hn, rfl⟩ := List.mem_map.mp hx
  simp only [decide_eq_true_eq]
  exact fun e => h (by rw [← e]; exact List.mem_map_of_mem hn)
theorem kv_keys (l : List Nd) : (kvOf l).map (·.1) = l.map (·.key) := by simp [kvOf]
theorem Rp.split : ∀ {l1 l2 : List Nd} {n : Nd} {ns : List Pn}, Rp (l1 ++ n :: l2) ns → n.key ∉ l1.map (·.key) → npOf ns n.key = n.np ∧ IntsAre n.vs (suOf ns n.key)
  | [], l2, n, _, .cons h1 h2 h3 r, _ => by
    simp only [npOf, suOf]
    rw [if_pos h1.symm, if_pos h1.symm]
    exact ⟨h2.symm, h3⟩
  | a :: l1, l2, n, _, .cons h1 h2 h3 r, h => by
    simp only [List.map_cons, List.mem_cons, not_or] at h
    simp only [npOf, suOf]
    rw [if_neg (by rw [← h1]; exact fun e => h.1 e.symm), if_neg (by rw [← h1]; exact fun e => h.1 e.symm)]
    exact r.split h.2
theorem Rp.same {l : List Nd} {ns : List Pn} {k v : Int} (hr : Rp l ns) (h : k ∉ l.map (·.key)) : Rp l (setNp k v ns) := by
  induction hr with
  | nil => exact .nil
  | cons h1 h2 h3 r ih =>
    rename_i q _
    rw [List.map_cons, List.mem_cons, not_or] at h
    show Rp _ ((if q.1 = k then (q.1, v, q.2.2) else q) :: setNp k v _)
    rw [if_neg (by rw [← h1]; exact fun e => h.1 e.symm)]
    exact .cons h1 h2 h3 (ih h.2)
theorem Rp.set {v : Int} {t : Tok} : ∀ {l1 l2 : List Nd} {n : Nd} {ns : List Pn}, Rp (l1 ++ n :: l2) ns → ((l1 ++ n :: l2).map (·.key)).Nodup → Rp (l1 ++ { n with np := v, nt := t } :: l2) (setNp n.key v ns)
  | [], l2, n, _, .cons (q := q) h1 h2 h3 r, hn => by
    show Rp _ ((if q.1 = n.key then (q.1, v, q.2.2) else q) :: setNp n.key v _)
    rw [if_pos h1.symm]
    refine .cons h1 rfl h3 (r.same ?_)
    exact (List.nodup_cons.mp hn).1
  | a :: l1, l2, n, _, .cons (q := q) h1 h2 h3 r, hn => by
    show Rp _ ((if q.1 = n.key then (q.1, v, q.2.2) else q) :: setNp n.key v _)
    have hn' := List.nodup_cons.mp (by simpa using hn : (a.key :: ((l1 ++ n :: l2).map (·.key))).Nodup)
    have : a.key ≠ n.key := fun e => hn'.1 (by rw [e]; simp)
    rw [if_neg (by rw [← h1]; exact this)]
    exact .cons h1 h2 h3 (r.set hn'.2)
theorem kv_set {l1 l2 : List Nd} {n : Nd} {v : Int} {t : Tok} : kvOf (l1 ++ { n with np := v, nt := t } :: l2) = kvOf (l1 ++ n :: l2) := by simp [kvOf]
theorem nled_addrs_set {l1 l2 : List Nd} {n : Nd} {v : Int} {t : Tok} : (nled (l1 ++ { n with np := v, nt := t } :: l2)).map (·.1) = (nled (l1 ++ n :: l2)).map (·.1) := by simp [nled, Nd.led]
theorem mem_nled {l1 l2 : List Nd} {n : Nd} {q : Addr × Obj} : q ∈ nled (l1 ++ n :: l2) ↔ q ∈ n.led ∨ q ∈ nled l1 ++ nled l2 := by
  simp only [nled, List.flatMap_append, List.flatMap_cons, List.mem_append]
  constructor
  · rintro (h | h | h)
    · exact .inr (.inl h)
    · exact .inl h
    · exact .inr (.inr h)
  · rintro (h | h | h)
    · exact .inr (.inl h)
    · exact .inl h
    · exact .inr (.inr h)
noncomputable def Ap (X : List Addr) (l : List Nd) : Prop := (X ++ (nled l).map (·.1)).Nodup
theorem Ap.front {X : List Addr} {l1 l2 : List Nd} {n : Nd} (h : Ap X (l1 ++ n :: l2)) : (n.ia :: n.da :: n.sa :: (X ++ (nled l1 ++ nled l2).map (·.1))).Nodup := by
  unfold Ap at h
  refine (List.Perm.nodup_iff ?_).mp h
  simp only [nled, List.flatMap_append, List.flatMap_cons, List.map_append, Nd.led, List.map_cons, List.map_nil, List.cons_append, List.nil_append]
  have : (X ++ ((l1.flatMap Nd.led).map (·.1) ++ n.ia :: n.da :: n.sa :: (l2.flatMap Nd.led).map (·.1))).Perm ([n.ia, n.da, n.sa] ++ (X ++ ((l1.flatMap Nd.led).map (·.1) ++ (l2.flatMap Nd.led).map (·.1)))) := by
    rw [← List.append_assoc X]
    refine (List.perm_append_comm_assoc (X ++ (l1.flatMap Nd.led).map (·.1)) [n.ia, n.da, n.sa] ((l2.flatMap Nd.led).map (·.1))).trans ?_
    rw [List.append_assoc]
  simpa [Nd.led] using this
end Mine
end

section
open PySem PySem.Spec PySem.Calls PySem.W PyProof.Rows PyProof.Rows.LCg PySem.SeqAt
set_option Elab.async false
set_option maxRecDepth 100000
set_option maxHeartbeats 2000000
set_option linter.unusedVariables false
namespace Mine
structure Ps where
  ns : List Pn
  ready : List Int
  p : Int
  f : Int
noncomputable abbrev cled (S dS N2 R : Addr) (d : Sd) (oN : Obj) (rv : List Value) (n : Nat) (p f : Int) : List (Addr × Obj) := [(S, instObj 137 dS), (dS, sdict d N2 (.ref R) p f), (N2, oN), (R, W.listOf rv.toArray n)]
structure SAt (w : World) (S dS N2 R : Addr) (oN : Obj) (l : List Nd) (rv : List Value) (st : Ps) : Prop where
  dict : oN.IsDictOf (PySem.intKind PySem.Challenge.rw_ny0334_01.prog w) (kvOf l)
  low : (N2 == sysModules) = false
  ready : IntsAre rv st.ready
  rp : Rp l st.ns
  nd : (keysN st.ns).Nodup
  ap : Ap [S, dS, N2, R] l
  len : st.ns.length ≤ 4
  rlen : st.ready.length ≤ 4
inductive SorterAt (w : World) (S : Addr) (st : Ps) (led : List (Addr × Obj)) : Prop
  | mk (dS N2 R : Addr) (d : Sd) (oN : Obj) (rv : List Value) (n : Nat) (l : List Nd) (e : led = cled S dS N2 R d oN rv n st.p st.f ++ nled l) (h : SAt w S dS N2 R oN l rv st) : SorterAt w S st led

noncomputable def readyPs (st : Ps) : Ps := { ns := st.ready.foldl (fun ns k => setNp k (-1) ns) st.ns, ready := [], p := st.p + st.ready.length, f := st.f }
theorem keysN_fold (ks : List Int) : ∀ ns : List Pn, keysN (ks.foldl (fun ns k => setNp k (-1) ns) ns) = keysN ns := by
  induction ks with
  | nil => intro ns; rfl
  | cons k ks ih => intro ns; rw [List.foldl_cons, ih, keysN_set]
theorem foldl_take_succ {α : Type} (f : α → Int → α) (a : α) (l : List Int) {i : Nat} {k : Int} (h : l[i]? = some k) : (l.take (i + 1)).foldl f a = f ((l.take i).foldl f a) k := by
  rw [List.take_add_one, h, Option.toList_some, List.foldl_append]; rfl
theorem ints_at' {vs : List Value} {ns : List Int} (h : IntsAre vs ns) {i : Nat} {v : Value} (e : vs[i]? = some v) : ∃ t k, v = .int k t ∧ ns[i]? = some k := by
  obtain ⟨t, rfl⟩ := ints_at h e
  have hi : i < ns.length := by
    rw [← h.length]
    rcases Nat.lt_or_ge i vs.length with q | q
    · exact q
    · rw [List.getElem?_eq_none q] at e; cases e
  refine ⟨t, _, rfl, ?_⟩
  rw [List.getElem?_eq_getElem hi]
  simp [List.getD_eq_getElem?_getD, hi]
theorem nled_mem_of {l1 l2 : List Nd} {n : Nd} {g h : Heap} {L : Addr} {C : List (Addr × Obj)} (N : News g L h (C ++ nled (l1 ++ n :: l2))) : News g L h (n.led ++ (C ++ (nled l1 ++ nled l2))) := fun q hq => N q (by
  rcases List.mem_append.mp hq with hq | hq
  · exact List.mem_append_right _ (mem_nled.mpr (.inl hq))
  · rcases List.mem_append.mp hq with hq | hq
    · exact List.mem_append_left _ hq
    · exact List.mem_append_right _ (mem_nled.mpr (.inr hq)))
theorem nled_mem_to {l1 l2 : List Nd} {n : Nd} {g h : Heap} {L : Addr} {C : List (Addr × Obj)} (N : News g L h (n.led ++ (C ++ (nled l1 ++ nled l2)))) : News g L h (C ++ nled (l1 ++ n :: l2)) := fun q hq => N q (by
  rcases List.mem_append.mp hq with hq | hq
  · exact List.mem_append_right _ (List.mem_append_left _ hq)
  · rcases mem_nled.mp hq with hq | hq
    · exact List.mem_append_left _ hq
    · exact List.mem_append_right _ (List.mem_append_right _ hq))
theorem off_map {l l' : List (Addr × Obj)} {I : Addr} (h : ∀ q ∈ l, q.1 ≠ I) (e : l'.map (·.1) = l.map (·.1)) : ∀ q ∈ l', q.1 ≠ I := fun q hq => by
  have : q.1 ∈ l.map (·.1) := e ▸ List.mem_map_of_mem hq
  refine hideG fun G0 k0 => ?_; obtain ⟨x, hx, hx'⟩ := List.mem_map.mp this; refine k0 ?_; clear k0 G0
  rw [← hx']; exact h x hx
inductive ReadyP (w : World) (S : Addr) (st : Ps) (v : Value) (l : List (Addr × Obj)) : Prop
  | mk (Ta : Addr) (vs : List Value) (k : Nat) (l' : List (Addr × Obj)) (e : v = .ref Ta) (el : l = (Ta, tupOf (List.toArray vs) k) :: l') (hi : IntsAre vs st.ready) (hS : SorterAt w S (readyPs st) l') (ap : ∀ q ∈ l', q.1 ≠ Ta) : ReadyP w S st v l
inductive ReadyM (S N2 D1 : Addr) (m' : Str → Option Value) : Prop
  | mk (o : Option Value) (e : m' = fun y => if y = Str.ofString "node" then o else if y = Str.ofString "n2i" then some (.ref N2) else if y = Str.ofString "result" then some (.ref D1) else List.lookup y [(Str.ofString "self", Value.ref S)].reverse) : ReadyM S N2 D1 m'
inductive ReadyJ (st : Ps) (l : List Nd) (D1 S dS N2 R : Addr) (d : Sd) (oN : Obj) (rv : List Value) (n : Nat) (i : Nat) (m' : Str → Option Value) (led : List (Addr × Obj)) : Prop
  | mk (hm : ReadyM S N2 D1 m') (l' : List Nd) (e : led = (D1, tupOf rv.toArray 0) :: (cled S dS N2 R d oN rv n st.p st.f ++ nled l')) (hk : kvOf l' = kvOf l) (ha : (nled l').map (·.1) = (nled l).map (·.1)) (hr : Rp l' ((st.ready.take i).foldl (fun ns k => setNp k (-1) ns) st.ns)) : ReadyJ st l D1 S dS N2 R d oN rv n i m' led
section
variable {w : World} {base : Heap} {p : Program} {loose : List Str} {mean : ExcName → Option Value} {mg mb : Str → Option Value}
theorem ready_con (X : (k0.heap_1 w.params).In base) (T : Top p loose mean mg mb base) (S : Addr) (st : Ps) (led : List (Addr × Obj)) (hS : SorterAt w S st led) (hk : ∀ k ∈ st.ready, k ∈ keysN st.ns) :
    Con w base 99 [.ref S] 2 led (ReadyP w S st) (fun _ _ => False) := by
  k_with_none
  k_with "exec For Name Name cons nil" => refine here ?_
  k_with "subscriptTail" => (k_here; (with_reducible show wpAny _ _ (subscriptTail _ _ (Value.ref _) (Value.int _ _)) _ _ _); k_dflt (refine' kda_item (knd := PySem.intKind _ _) ?N ?m ?d (intKind_is _ _ _ _) ?v ?_; (case N => k_asm); (case m => k_mem); (case d => assumption); (case v => assumption); k_whole))
  k_with "call type:tuple" => refine here ?_
  k_with "call builtin:list.clear" => refine here ?_
  k_with "call builtin:len" => refine here ?_
  k_with "k_all" => assumption
  k_with "k_ne" => first | assumption | (refine Ne.symm ?_; assumption)
  refine hideG fun G0 k0 => ?_; obtain ⟨dS, N2, R, d, oN, rv, n, l, rfl, hS⟩ := hS; refine k0 ?_; clear k0 G0
  refine' Con.of (binds := [(Str.ofString "self", .ref S)]) X T ?ho ?hcd ?hb ?hl ?h ?c2 ?c3 ?c4 ?c5
  k_dflt ((case ho => k_is); (case hcd => k_is); (case hb => exact fun _ => BindsTo.of_eq rfl); (case hl => exact locs rfl); (case c2 => exact rfl); (case c3 => exact rfl); (case c4 => exact rfl); (case c5 => decide))
  intro dp envs gd un s g L h₁ tk hdp hun B Xg Tg F N hlt
  simp only [List.cons_append, List.nil_append] at N
  have hrl : rv.length ≤ 4 := by rw [hS.ready.length]; exact hS.rlen
  refine hide1 fun Q1 hQ1 => ?_
  try k_fold
  k_steps
  refine here (kde_tupleOf (zs := rv) F N ⟨_, (N _ (.tail _ (.tail _ (.tail _ (.head _))))).1, rfl, _, rfl⟩ (by rw [List.size_toArray]; omega) rfl fun D1 h1 F1 N1 l1 => ?_)
  have lD : ∀ a ∈ (nled l).map (·.1), @LT.lt Nat _ a D1 := fun a ha => by obtain ⟨q, hq, rfl⟩ := List.mem_map.mp ha; exact l1 q (.tail _ (.tail _ (.tail _ (.tail _ hq))))
  clear F N
  k_steps
  refine for_E ?_ (fun _ => rfl)
  k_steps
  rename_i h3 F3 N3
  refine for_L (L := L) (source_tuple (by rfl) F3 N3 (.head _)) (fun q hq => by rw [List.mem_singleton.mp hq]; exact .head _)
    (ReadyJ st l D1 S dS N2 R d oN rv n) ?_ B ?_ ?_ ?_ rfl rfl rfl
  · intro i m' led hP1 q hq; refine hideG fun G0 k0 => ?_; obtain ⟨_, l', rfl, _⟩ := hP1; refine k0 ?_; clear k0 G0
    rw [List.mem_singleton.mp hq]; exact .head _
  · refine ⟨⟨none, funext fun y => ?_⟩, l, rfl, rfl, rfl, hS.rp⟩
    by_cases e : y = Str.ofString "node"
    · subst e; rfl
    · simp [e]
  · intro I i v g' m' led o h tk' hi hP hP1 Sl B' F' N' hI; refine hideG fun G0 k0 => ?_; obtain ⟨⟨ov, rfl⟩, l', rfl, hkv, had, hrp⟩ := hP1; refine k0 ?_; clear k0 G0
    clear F3 N3 hlt Xg Tg B
    have Xg := X.keeps B'.stays
    have Tg := T.keeps B'.stays
    refine hideG fun G0 k0 => ?_; obtain ⟨t, k, rfl, hki⟩ := ints_at' hS.ready (by simpa using hP); refine k0 ?_; clear k0 G0
    have hkk : k ∈ l'.map (·.key) := by rw [hrp.keys, keysN_fold]; exact hk k (List.mem_of_getElem? hki)
    have hnd : (l'.map (·.key)).Nodup := by rw [hrp.keys, keysN_fold]; exact hS.nd
    refine hideG fun G0 k0 => ?_; obtain ⟨la, nd, lb, rfl, rfl, hnk⟩ := nd_split hkk; refine k0 ?_; clear k0 G0
    have hap : Ap [S, dS, N2, R] (la ++ nd :: lb) := by unfold Ap; rw [had]; exact hS.ap
    have hv := kv_at (l2 := lb) hnk
    have hdict : oN.IsDictOf (PySem.intKind PySem.Challenge.rw_ny0334_01.prog w) (kvOf (la ++ nd :: lb)) := by rw [hkv]; exact hS.dict
    have hfr := hap.front
    simp only [List.cons_append, List.nil_append, List.nodup_cons, List.mem_cons, not_or, List.mem_map, not_exists, not_and] at hfr
    refine hideG fun G0 k0 => ?_; obtain ⟨⟨a1, a2, a3, a4, a5, a6, a7⟩, ⟨b2, b3, b4, b5, b6, b7⟩, ⟨c3, c4, c5, c6, c7⟩, ⟨d4, d5, d6, d7⟩, ⟨e5, e6, e7⟩, ⟨f6, f7⟩, ⟨g7, _⟩⟩ := hfr; refine k0 ?_; clear k0 G0
    have i1 : nd.ia ≠ I := hI _ (.tail _ (List.mem_append_right _ (mem_nled.mpr (.inl (.head _)))))
    have i2 : nd.ia ≠ D1 := Nat.ne_of_lt (lD _ (by rw [← had]; exact List.mem_map_of_mem (f := (·.1)) (mem_nled.mpr (.inl (.head _)))))
    have N4 : News g' L h (nd.led ++ (((I, o) :: (D1, tupOf rv.toArray 0) :: cled S dS N2 R d oN rv n st.p st.f) ++ (nled la ++ nled lb))) := nled_mem_of (C := (I, o) :: (D1, tupOf rv.toArray 0) :: cled S dS N2 R d oN rv n st.p st.f) N'
    clear N'
    simp only [List.cons_append, List.nil_append] at N4
    refine hide1 fun Q2 hQ2 => ?_
    try k_fold
    k_steps
    rename_i h9 F9 N9
    refine hQ2 _ _ ?_
    show Goes envs g' L _ _ _
    refine ⟨g', _, (I, o) :: (D1, tupOf rv.toArray 0) :: (cled S dS N2 R d oN rv n st.p st.f ++ nled (la ++ { nd with np := -1, nt := 197 } :: lb)), h9, _, rfl, Slid.refl .., F9, nled_mem_to (C := (I, o) :: (D1, tupOf rv.toArray 0) :: cled S dS N2 R d oN rv n st.p st.f) N9, _, rfl, ⟨⟨some (.int nd.key t), funext fun y => ?_⟩, _, rfl, kv_set.trans hkv, nled_addrs_set.trans had, ?_⟩, off_map hI ?_⟩
    · by_cases e : y = Str.ofString "node" <;> simp [e]
    · rw [foldl_take_succ _ _ _ hki]; exact hrp.set hnd
    · simp only [List.map_cons, List.map_append]
      rw [nled_addrs_set]
  · intro g' m' led h tk' hP1 Sl B' F' N'; refine hideG fun G0 k0 => ?_; obtain ⟨⟨ov, rfl⟩, l', rfl, hkv, had, hrp⟩ := hP1; refine k0 ?_; clear k0 G0
    simp only [List.cons_append, List.nil_append] at N'
    clear F3 N3 hlt Xg Tg B
    have Xg := X.keeps B'.stays
    have Tg := T.keeps B'.stays
    have hap := hS.ap
    have mR : ∀ q ∈ nled l', q.1 ≠ R ∧ q.1 ≠ dS ∧ q.1 ≠ D1 := by
      intro q hq
      have hm : q.1 ∈ (nled l).map (·.1) := by rw [← had]; exact List.mem_map_of_mem hq
      unfold Ap at hap
      simp only [List.cons_append, List.nil_append, List.nodup_cons, List.mem_cons, not_or] at hap
      exact ⟨fun e => hap.2.2.2.1 (e ▸ hm), fun e => hap.2.1.2.2 (e ▸ hm), Nat.ne_of_lt (lD _ hm)⟩
    have mR1 : ∀ q ∈ nled l', q.1 ≠ R := fun q hq => (mR q hq).1
    have mR2 : ∀ q ∈ nled l', q.1 ≠ dS := fun q hq => (mR q hq).2.1
    have hapl : Ap [S, dS, N2, R] l' := by unfold Ap; rw [had]; exact hap
    unfold Ap at hap
    simp only [List.cons_append, List.nil_append, List.nodup_cons, List.mem_cons, not_or] at hap
    refine hideG fun G0 k0 => ?_; obtain ⟨⟨d4, d5, d6, _⟩, ⟨e5, e6, _⟩, ⟨f6, _⟩, _⟩ := hap; refine k0 ?_; clear k0 G0
    have l2 : R ≠ D1 := Nat.ne_of_lt (l1 (R, W.listOf rv.toArray n) (by simp))
    have l3 : dS ≠ D1 := Nat.ne_of_lt (l1 (dS, sdict d N2 (Value.ref R) st.p st.f) (by simp))
    have l4 : S ≠ D1 := Nat.ne_of_lt (l1 (S, instObj 137 dS) (by simp))
    have l5 : N2 ≠ D1 := Nat.ne_of_lt (l1 (N2, oN) (by simp))
    dsimp only
    k_steps
    refine here (clear_any F' N' (by k_upd) (by rw [List.size_toArray]; exact Nat.le_trans hrl (by decide)) fun h5 F5 N5 => ?_)
    clear F' N'
    k_steps
    refine here (PyProof.Rows.len_tuple ⟨_, (N5 _ (.head _)).1, rfl, _, rfl⟩ (by rw [List.size_toArray]; omega) ?_)
    k_steps
    rename_i h6 F6 N6
    refine hQ1 _ _ ?_
    show BodyQ g L envs s _ (.ret (.ref D1)) _
    have hsz : rv.toArray.size = st.ready.length := by rw [List.size_toArray, hS.ready.length]
    rw [hsz] at N6
    obtain ⟨d', n', N7⟩ : ∃ d' n', News g' L h6 ((D1, tupOf rv.toArray 0) :: (S, instObj 137 dS) :: (dS, sdict d' N2 (.ref R) (st.p + st.ready.length) st.f) :: (N2, oN) :: (R, W.listOf ([] : List Value).toArray n') :: nled l') := ⟨⟨d.e1, d.k1, d.e2, d.k2, d.e3, d.k3, tk' + 1 + 1 + 1 + 1, d.e4, d.k4, d.t4⟩, if st.ready.length = 0 then n else n + 1, N6⟩
    have etk : st.ready.take rv.toArray.size = st.ready := List.take_of_length_le (by rw [hsz]; exact Nat.le_refl _)
    have hki : keysN ((st.ready.take rv.toArray.size).foldl (fun ns k => setNp k (-1) ns) st.ns) = keysN st.ns := keysN_fold _ _
    rw [etk] at hrp hki
    refine ⟨g', _, _, h6, _, rfl, Sl, F6, N7, D1, rv, 0, _, rfl, rfl, hS.ready, ⟨dS, N2, R, d', oN, [], n', l', rfl, ⟨by rw [hkv]; exact hS.dict, hS.low, .nil, hrp, (show (keysN (List.foldl (fun ns k => setNp k (-1) ns) st.ns st.ready)).Nodup by rw [hki]; exact hS.nd), hapl, ?len, Nat.zero_le _⟩⟩, ?off⟩
    case len =>
      show (List.foldl (fun ns k => setNp k (-1) ns) st.ns st.ready).length ≤ 4
      have := congrArg List.length hki
      simp only [keysN, List.length_map] at this
      rw [this]; exact hS.len
    case off =>
      intro q hq
      simp only [List.mem_cons] at hq
      rcases hq with rfl | rfl | rfl | rfl | hq
      · exact l4
      · exact l3
      · exact l5
      · exact l2
      · exact (mR q hq).2.2
end
end Mine
end

section
open PySem PySem.Spec PySem.Calls PySem.W PyProof.Rows PyProof.Rows.LCg PySem.SeqAt
set_option Elab.async false
set_option maxRecDepth 100000
set_option maxHeartbeats 2000000
set_option linter.unusedVariables false
namespace Mine
theorem wp_peek1 {α : Type} {K : Frag} {M : Model} {A : Around} {E : Value → Shared → Prop} {Q : α → Shared → Prop} {s : Shared} {o : Obj} {r : Addr → α}
    (X : K.In s.heap) (hf : o.isFreed = false) (q : Q (r s.heap.objs.size) { s with heap := s.heap.push o }) :
    ∀ (t : Sem α) (g : Addr → Option α), peek1 K ⟨M.prog, M.w.params⟩ t = some (o, g) → (∀ D, g D = some (r D)) → wpAny M A t Q E s := by
  intro t
  induction t with
  | rule _ k ih => intro g e hg Γ p hΓ; exact ih () g e hg Γ p hΓ
  | point _ k ih => intro g e hg Γ p hΓ; exact ih () g e hg Γ p hΓ
  | ask k ih => intro g e hg Γ p hΓ; exact ih _ g e hg Γ p hΓ
  | load a _ k ih =>
    intro g e hg Γ p hΓ
    simp only [peek1] at e
    split at e
    · rename_i ob ho; exact ⟨ob, X _ _ ho, ih ob g e hg Γ p hΓ⟩
    · cases e
  | alloc ob k _ =>
    intro g e hg
    have e : some (ob, fun D => peek K ⟨M.prog, M.w.params⟩ (k D)) = some (o, g) := e
    obtain ⟨e1, e2⟩ := Prod.mk.inj (Option.some.inj e)
    subst e1
    subst e2
    have X' : K.In (s.heap.push ob) := X.keeps fun b x hb => Heap.get?_push_of_some _ hb
    show wpAny M A (alloc ob >>= k) Q E s
    refine wpAny_bind (wpAny_alloc ?_)
    exact (Looks.of_peek (M := M) (h := s.heap.push ob) X' (hg s.heap.objs.size)).here (s := { s with heap := s.heap.push ob }) q
  | _ => intro g e; cases e

theorem fr_cong {g h : Heap} {L : Addr} {m m' : Str → Option Value} (F : Fr g L h m) (e : ∀ y, m y = m' y) : Fr g L h m' := (funext e : m = m') ▸ F
theorem fun_push {h base : Heap} (o : Obj) : ∀ {l : List Env}, h.FunFrames base l → (h.push o).FunFrames base l := fun {l} hf => fun_up hf fun b hb ob e => ⟨ob.slots, Heap.get?_push_of_some _ e⟩

section
variable {w : World} {K : Frag} {base : Heap} {p : Program} {loose : List Str} {mean : ExcName → Option Value} {mg mb : Str → Option Value}
  {name qual : Str} {params : Arguments} {body : List Stmt} {scope : Scope} {dV kV doc pm cdv ct oc : Value} {an od : Option Addr} {osl : Array (Option Value)} {f : Addr} {vs : List Value} {binds : Addr → List (Str × Value)} {d : Nat} {pre : List (Addr × Obj)} {post rs : Value → List (Addr × Obj) → Prop} {ot : Obj}

theorem Con.ofS (X : K.In base) (T : Top p loose mean mg mb base)
    (ho : K.lookup f = some ⟨oc, od, .func (fnOf name qual params body scope dV kV doc pm an cdv ct), osl⟩) (hcd : codeIn K cdv qual = true)
    (hfree : ot.isFreed = false) (hbind : ∃ gt, peek1 K ⟨PySem.Challenge.rw_ny0334_01.prog, w.params⟩ (bindArgs (fnOf name qual params body scope dV kV doc pm an cdv ct) ⟨vs, []⟩) = some (ot, gt) ∧ ∀ D, gt D = some (binds D))
    (hkind : ∀ D, ((binds D).all fun y => scope.names.lookup y.1 == some .local || scope.names.lookup y.1 == some .cell) = true)
    (hnd : ((cellsFrom 0 scope.names []).map (·.1)).Nodup)
    (h : ∀ (dp : Nat) (envs : List Env) (gd : Option (List Code)) (un : Nat) (s : Shared) (g : Heap) (L : Addr) (h₁ : Heap) (tk : Nat) (cells : List (Addr × Obj)) (D : Addr), dp + d < recursionLimit → un + 100 * d ≤ 5000 →
      Below (Ar dp envs gd un) base envs g → K.In g → Top p loose mean mg mb g → Fr g L h₁ (bindL (envOfC qual scope L f cdv).kindOf (binds D) fun _ => none) → News g L h₁ (cells ++ (D, ot) :: pre) →
      CellsAre (bindC (envOfC qual scope L f cdv).kindOf (binds D) fun _ => none) (cellsFrom (L + 1) scope.names []) cells → (∀ q ∈ pre, q.1 < D) → D < L →
      wpAny (model PySem.Challenge.rw_ny0334_01.prog w) ((Ar dp envs gd un).deeper (envOfC qual scope L f cdv)) (execs body (envOfC qual scope L f cdv)) (BodyQ g L envs s post) (BodyE w ((Ar dp envs gd un).deeper (envOfC qual scope L f cdv)) (envOfC qual scope L f cdv) g L envs s rs) { s with heap := h₁, toks := tk })
    (hco : scope.isCoroutine = false) (hgen : scope.isGenerator = false) (hk : scope.kind = .function) : Con w base f vs d pre post rs := by
  obtain ⟨gt, hbind, hgt⟩ := hbind
  intro dp envs gd un s Q E hdp hun hb hff hp hpf hQ hE
  have upH : ∀ b o, s.heap.get? b = some o → (s.heap.push ot).get? b = some o := fun b o e => Heap.get?_push_of_some _ e
  have hb' : base.StaysIn (s.heap.push ot) := fun b o e => upH b o (hb b o e)
  have newN : s.heap.get? s.heap.objs.size = none := by
    cases e : s.heap.get? s.heap.objs.size with
    | none => rfl
    | some o => exact absurd (Heap.lt_size e) (Nat.lt_irrefl _)
  have newB : base.get? s.heap.objs.size = none := by
    cases e : base.get? s.heap.objs.size with
    | none => rfl
    | some o => rw [hb _ _ e] at newN; cases newN
  have hp' : Ents base (s.heap.push ot) ((s.heap.objs.size, ot) :: pre) := fun q hq => by
    revert q; refine all_cons (⟨Heap.get?_push_size _ hfree, newB⟩) ?_; intro q hq; exact ⟨upH _ _ (hp q hq).1, (hp q hq).2⟩
  have hff' : (s.heap.push ot).FunFrames base envs := fun_push ot hff
  have hpf' : ∀ q ∈ (s.heap.objs.size, ot) :: pre, q.1 ∉ fra envs := fun q hq => by
    rcases List.mem_cons.mp hq with rfl | hq
    · intro hm
      obtain ⟨o, e, _⟩ := fun_there hff _ hm
      rw [newN] at e; cases e
    · exact hpf q hq
  have hbg : base.StaysIn (hideAll (s.heap.push ot) (((s.heap.objs.size, ot) :: pre).map (·.1))) := fun b o e => hideAll_get _ (hb' b o e) fun q => by
    obtain ⟨x, hx, e'⟩ := List.mem_map.mp q
    have := (hp' x hx).2
    rw [e', e] at this; cases this
  have Bg : Below (Ar dp envs gd un) base envs (hideAll (s.heap.push ot) (((s.heap.objs.size, ot) :: pre).map (·.1))) := ⟨rfl, hbg, funFrames_hideAll hff' fun env he a ha q => by
    obtain ⟨x, hx, e'⟩ := List.mem_map.mp ha
    exact hpf' x hx (List.mem_filterMap.mpr ⟨env, he, by rw [q, ← e']⟩)⟩
  refine (codeAny_call_function (fd := fnOf name qual params body scope dV kV doc pm an cdv ct) (body := body) (show dp < recursionLimit by omega) (hb _ _ (X _ _ ho)) rfl hco hgen rfl (codeRec_of (X.keeps hb) hcd) (wp_peek1 (X.keeps hb) hfree ?_ _ _ hbind hgt))
  refine wpAny_newFunctionEnv_cells (s := { s with heap := s.heap.push ot }) hk (kindsX (hkind _) _) fun env' he s' x => ?_
  subst he
  refine ⟨(T.nolimit.keeps hb').keeps x.toInCall.keep, codeAny_func ?_⟩
  obtain ⟨h₁, tk, rfl, _⟩ := x.done
  have hk₁ := x.toInCall.keep
  obtain ⟨cells, NC, Y⟩ := Cl.news (h₀ := s.heap.push ot) (Nat.le_refl _) fun n c hm => ⟨x.cell n c (lookup_of_mem_nodup (cellsFrom_names scope.names 0 ((s.heap.push ot).objs.size + 1) [] [] rfl ▸ hnd) hm), x.above n c hm⟩
  have F₁ : Fr (hideAll (s.heap.push ot) (((s.heap.objs.size, ot) :: pre).map (·.1))) (s.heap.push ot).objs.size h₁ (bindL (envOfC qual scope (s.heap.push ot).objs.size f cdv).kindOf (binds s.heap.objs.size) fun _ => none) := ⟨x.toInCall.ns, fun b o e => hk₁ b o (of_hideAll _ e), Nat.le_of_eq (hideAll_size _ _)⟩
  have N₁ : News (hideAll (s.heap.push ot) (((s.heap.objs.size, ot) :: pre).map (·.1))) (s.heap.push ot).objs.size h₁ (cells ++ (s.heap.objs.size, ot) :: pre) := fun q hq => by
    rcases List.mem_append.mp hq with hq | hq
    · refine ⟨(NC q hq).1, (NC q hq).2.1, ?_⟩
      cases e : (hideAll (s.heap.push ot) (((s.heap.objs.size, ot) :: pre).map (·.1))).get? q.1 with
      | none => rfl
      | some o => have := of_hideAll _ e; rw [(NC q hq).2.2] at this; cases this
    · exact ⟨hk₁ _ _ (hp' q hq).1, Nat.ne_of_lt (Heap.lt_size (hp' q hq).1), hideAll_none _ (List.mem_map_of_mem hq)⟩
  have key : ∀ {led : List (Addr × Obj)} {h' : Heap}, Chg (fra envs) (((s.heap.objs.size, ot) :: pre).map (·.1)) (s.heap.push ot) h' → (∀ q ∈ led, q.1 ∈ ((s.heap.objs.size, ot) :: pre).map (·.1) ∨ (s.heap.push ot).get? q.1 = none) →
      Chg (fra envs) (pre.map (·.1)) s.heap h' ∧ ∀ q ∈ led, q.1 ∈ pre.map (·.1) ∨ s.heap.get? q.1 = none := fun {led h'} C hl => by
    have nx : ∀ b o, s.heap.get? b = some o → b ∉ pre.map (·.1) → b ∉ ((s.heap.objs.size, ot) :: pre).map (·.1) := fun b o e nb hm => by
      rcases List.mem_cons.mp hm with q | hm
      · rw [q, newN] at e; cases e
      · exact nb hm
    refine ⟨⟨fun b o e nf nb => C.same b o (upH b o e) nf (nx b o e nb), fun b o e hf nb => C.slid b o (upH b o e) hf (nx b o e nb)⟩, fun q hq => ?_⟩
    rcases hl q hq with hm | hn
    · rcases List.mem_cons.mp hm with e | hm
      · exact .inr (by rw [e]; exact newN)
      · exact .inl hm
    · refine .inr ?_
      cases e : s.heap.get? q.1 with
      | none => rfl
      | some o => rw [upH _ _ e] at hn; cases hn
  refine wpAny_mono (h dp envs gd un s _ (s.heap.push ot).objs.size h₁ tk cells s.heap.objs.size hdp hun Bg (X.keeps hbg) (T.keeps hbg) F₁ N₁ Y (fun q hq => Heap.lt_size (hp q hq).1) (by rw [Heap.size_push]; exact Nat.lt_succ_self _)) ?_ ?_
  · rintro fl s' ⟨g', m', led, h', tk', rfl, S, F', N', hpost⟩
    obtain ⟨e1, e2⟩ := ents_of (s := { s with heap := s.heap.push ot }) (L := (s.heap.push ot).objs.size) hb' hp' S N'
    obtain ⟨c1, c2⟩ := key (chg_of (s := { s with heap := s.heap.push ot }) S F'.keep) e2
    exact hQ _ led h' tk' hpost c1 e1 c2
  · intro e s' he
    refine wpAny_mono he ?_ fun _ _ x => x.elim
    rintro _ s'' ⟨g', led, h', tk', rfl, S, hk', N', hrs⟩
    obtain ⟨e1, e2⟩ := ents_of (s := { s with heap := s.heap.push ot }) (L := (s.heap.push ot).objs.size) hb' hp' S N'
    obtain ⟨c1, c2⟩ := key (chg_of (s := { s with heap := s.heap.push ot }) S hk') e2
    exact hE e led h' tk' hrs c1 e1 c2
end
end Mine
end

section
open PySem PySem.Spec PySem.Calls PySem.W PyProof.Rows PyProof.Rows.LCg PySem.SeqAt
set_option Elab.async false
set_option maxRecDepth 100000
set_option maxHeartbeats 400000
set_option linter.unusedVariables false
namespace Mine
section
variable {M : Model} {A A₀ : Around} {E : Value → Shared → Prop} {s : Shared} {base g : Heap} {env : Env} {outer : List Env} {L e : Addr} {m : Str → Option Value} {cls : Value} {l rest : List (Addr × Obj)}

theorem note_K {Q : Unit → Shared → Prop} (B : Below A₀ base outer g) (F : Fr g L s.heap m) (N : News g L s.heap (l ++ rest)) (ap : ∀ p ∈ l, ∀ q ∈ rest, p.1 ≠ q.1) (hA : A.frames = some (env :: outer)) (hf : env.frame = some L) (hke : env.scope.kind = .function) (hx : ExL e cls l)
    (h : ∀ g' h' l', ExF e cls (rawInt L) l' → Slid (fra outer) g g' → Below A₀ base outer g' → Fr g' L h' m → News g' L h' (l' ++ rest) → (∀ p ∈ l', ∀ q ∈ rest, p.1 ≠ q.1) → Q () { s with heap := h' }) :
    wpAny M A (noteFrame (.ref e) env) Q E s := by
  have B₁ := pushX B F hf hke
  have sub : ∀ p ∈ l, p ∈ l ++ rest := fun p hp => List.mem_append_left _ hp
  refine note_rest hA hf B₁.frames B₁.stays (ents_news B N sub) hx (off_frames B N hf sub) fun l1 h1 x1 c1 i1 f1 => ?_
  refine hideG fun G0 k0 => ?_; obtain ⟨g', S, B', F', N', ap'⟩ := after_call (rest := rest) B F N hf sub (rest_off ap fun q hq => List.mem_append_right _ hq) c1 i1 f1; refine k0 ?_; clear k0 G0
  exact h g' h1 l1 x1 S B' F' N' ap'

theorem came_back {x : Value} {e : Addr} (B : Below A₀ base outer g) (F : Fr g L s.heap m) (N : News g L s.heap (l ++ rest)) (ap : ∀ p ∈ l, ∀ q ∈ rest, p.1 ≠ q.1) (hf : env.frame = some L) (hx : ExF e cls x l)
    (h : ∀ g' h' l', ExF e cls (rawInt L) l' → Slid (fra outer) g g' → Below A₀ base outer g' → Fr g' L h' m → News g' L h' (l' ++ rest) → (∀ p ∈ l', ∀ q ∈ rest, p.1 ≠ q.1) → E (.ref e) { s with heap := h' }) :
    cameBackBy M A env E (.ref e) s := by
  have hx' := hx
  refine hideG fun G0 k0 => ?_; obtain ⟨oe, vs, a0, T, oT, ts, c1, c2, c3, c4, c5, c6, c7, rfl⟩ := hx; refine k0 ?_; clear k0 G0
  unfold cameBackBy
  refine wpAny_bind (wpAny_field (N (e, oe) (by simp)).1 c2 c4 ?_)
  rw [if_neg (show ¬ ((Value.ref T == Value.none) = true) from by simp)]
  rw [hf]
  exact flight_K (fr := some L) B F N ap hf hx' fun g' h' l' a b c d e' f' => h g' h' l' a b c d e' f'

theorem out_of_loop (B : Below A₀ base outer g) (F : Fr g L s.heap m) (N : News g L s.heap (l ++ rest)) (ap : ∀ p ∈ l, ∀ q ∈ rest, p.1 ≠ q.1) (hA : A.frames = some (env :: outer)) (hf : env.frame = some L) (hke : env.scope.kind = .function) (hx : ExL e cls l)
    (h : ∀ g' h' l', ExF e cls (rawInt L) l' → Slid (fra outer) g g' → Below A₀ base outer g' → Fr g' L h' m → News g' L h' (l' ++ rest) → (∀ p ∈ l', ∀ q ∈ rest, p.1 ≠ q.1) → E (.ref e) { s with heap := h' }) :
    notedBy M A env (fun x s' => cameBackBy M A env E x s') (.ref e) s := by
  unfold notedBy
  refine note_K B F N ap hA hf hke hx fun g1 h1 l1 x1 S1 B1 F1 N1 ap1 => ?_
  exact came_back (s := { s with heap := h1 }) B1 F1 N1 ap1 hf x1 fun g2 h2 l2 x2 S2 B2 F2 N2 ap2 => h g2 h2 l2 x2 (S1.trans S2) B2 F2 N2 ap2
end

section
variable {w : World} {A : Around} {E : Value → Shared → Prop} {s : Shared} {h₀ : Heap} {L d : Addr} {news : List (Addr × Obj)} {o : Obj} {kvs : List (Int × Value)} {k : Int} {t : Tok} {v : Value}
theorem dget_some {Q : Value → Shared → Prop} (N : News h₀ L s.heap news) (hp : (d, o) ∈ news) (hd : o.IsDictOf (PySem.intKind PySem.Challenge.rw_ny0334_01.prog w) kvs) (lo : (d == sysModules) = false) (hl : valueAt kvs k = some v) (h : Q v { s with toks := s.toks + 1 }) :
    wpAny (MG w) A (call (.builtin "dict.get") [.ref d, .int k t]) Q E s := kdg_get1 (knd := PySem.intKind _ _) N hp hd lo (intKind_is _ _ _ _) _ hl h
theorem dget_none {Q : Value → Shared → Prop} (N : News h₀ L s.heap news) (hp : (d, o) ∈ news) (hd : o.IsDictOf (PySem.intKind PySem.Challenge.rw_ny0334_01.prog w) kvs) (lo : (d == sysModules) = false) (hl : valueAt kvs k = none) (h : Q .none { s with toks := s.toks + 1 }) :
    wpAny (MG w) A (call (.builtin "dict.get") [.ref d, .int k t]) Q E s := kdg_get1 (knd := PySem.intKind _ _) N hp hd lo (intKind_is _ _ _ _) _ hl h
end
theorem small_text {k : Int} (h0 : 0 ≤ k) (h4 : k ≤ 4) : (Str.ofString (toString k)).length ≤ 20 := by
  obtain ⟨j, rfl⟩ := Int.eq_ofNat_of_zero_le h0
  have key : ∀ j : Nat, j < 5 → (Str.ofString (toString (j : Int))).length ≤ 20 := by decide +kernel
  exact key j (by omega)
theorem small_log {k : Int} (h0 : 0 ≤ k) (h4 : k ≤ 4) : k.natAbs.log2 < 1920 := by
  obtain ⟨j, rfl⟩ := Int.eq_ofNat_of_zero_le h0
  have key : ∀ j : Nat, j < 5 → (j : Int).natAbs.log2 < 1920 := by decide
  exact key j (by omega)
theorem joined3 {w : World} {A : Around} {E : Value → Shared → Prop} {s : Shared} {env : Env} {a b : Str} {x : Str} {px pf pa pb pos : Pos} {ka kb : Nat} {k : Int} {t : Tok} {Q : Value → Shared → Prop}
    (hn : ∀ (Q' : Value → Shared → Prop) (tk : Nat), Q' (.int k t) { s with toks := tk } → wpAny (MG w) A (eval (.Name x px) env) Q' E { s with toks := tk }) (h0 : 0 ≤ k) (h4 : k ≤ 4) (ha : a.length ≤ 100) (hb : b.length ≤ 100)
    (h : ∀ txt t' tk, Q (.str txt t') { s with toks := tk }) :
    Here (wpAny (MG w) A (eval (.JoinedStr [.Constant (.str a) ka pa, .FormattedValue (.Name x px) 114 none pf, .Constant (.str b) kb pb] pos) env) Q E s) := by
  have hlen := small_text h0 h4
  have hline : (1000 : Nat) ≤ sizeLine := by decide
  have hlog := small_log h0 h4
  refine JoinedStr_many (joinParts_cons (wpAny_Constant_str ?_))
  have e0 : (Str.empty ++ a).length = a.length := by rw [strLen_append]; show 0 + _ = _; omega
  refine ⟨by rw [e0]; omega, joinParts_cons (wpAny_FormattedValue_repr (hn _ _ (pyReprObj_int hlog (formatField_str (fun t' tk => ?_) (by have := hlen; omega)))))⟩
  have e1 : (Str.empty ++ a ++ Str.ofString (toString k)).length ≤ 120 := by rw [strLen_append, e0]; omega
  refine ⟨by omega, joinParts_cons (wpAny_Constant_str ?_)⟩
  have e2 : (Str.empty ++ a ++ Str.ofString (toString k) ++ b).length ≤ 220 := by rw [strLen_append]; omega
  exact ⟨by omega, joinParts_nil (h _ _ _) (by omega)⟩
theorem exc_new {g h h' : Heap} {L e : Addr} {m : Str → Option Value} {news : List (Addr × Obj)} {cls : String} (F : Fr g L h m) (N : News g L h news) (x : Heap.NewExc h h' e cls) :
    ∃ oe, Fr g L h' m ∧ News g L h' ([(e, oe)] ++ news) ∧ ExL e (.type cls) [(e, oe)] ∧ (∀ p ∈ [(e, oe)], ∀ q ∈ news, p.1 ≠ q.1) := by
  refine hideG fun G0 k0 => ?_; obtain ⟨k, hn, ob, t, he, hc, hd⟩ := x; refine k0 ?_; clear k0 G0
  refine ⟨ob, F.keeps k, fun q hq => ?_, .inr ⟨ob, #[t, .none, .none, .none, .bool false, .none], t, hc, hd, rfl, rfl, rfl⟩, fun p hp q hq e' => ?_⟩
  · rcases List.mem_append.mp hq with hq | hq
    · rw [List.mem_singleton.mp hq]
      refine ⟨he, fun e' => ?_, ?_⟩
      · refine hideG fun G0 k0 => ?_; obtain ⟨oL, es, ep, hL, _⟩ := id F.ns; refine k0 ?_; clear k0 G0
        have e'' : e = L := e'
        rw [e'', hL] at hn; cases hn
      · cases q : g.get? e with
        | none => rfl
        | some o => rw [F.keep _ _ q] at hn; cases hn
    · exact ⟨k _ _ (N q hq).1, (N q hq).2⟩
  · rw [List.mem_singleton.mp hp] at e'
    have := (N q hq).1
    rw [← e', hn] at this; cases this

section
variable {w : World} {A A₀ : Around} {base g g' h h' : Heap} {envs : List Env} {env : Env} {L e : Addr} {m : Str → Option Value} {s : Shared} {tk : Nat} {all led : List (Addr × Obj)} {cls : String} {rs : Value → List (Addr × Obj) → Prop}
theorem raise_end (Sl : Slid (fra envs) g g') (B : Below A₀ base envs g') (F : Fr g' L h m) (N : News g' L h all) (hx : Heap.NewExc h h' e cls) (hsub : ∀ q ∈ led, q ∈ all)
    (hrs : ∀ le, ExL e (.type cls) le → (∀ p ∈ le, ∀ q ∈ led, p.1 ≠ q.1) → rs (.ref e) (le ++ led)) (hA : A.frames = some (env :: envs)) (hf : env.frame = some L) (hke : env.scope.kind = .function) :
    BodyE w A env g L envs s rs (.ref e) { s with heap := h', toks := tk } := by
  refine hideG fun G0 k0 => ?_; obtain ⟨oe, F1, N1, x1, ap1⟩ := exc_new F (news_sub N hsub) hx; refine k0 ?_; clear k0 G0
  refine leave_note (s := { s with heap := h', toks := tk }) B F1 N1 ap1 hA hf hke x1 fun g2 h2 l2 x2 S2 B2 F2 N2 ap2 => ?_
  exact bodyE_of (Sl.trans S2) F2 N2 (hrs l2 (.inl x2) ap2)
theorem raise_loop (Sl : Slid (fra envs) g g') (B : Below A₀ base envs g') (F : Fr g' L h m) (N : News g' L h all) (hx : Heap.NewExc h h' e cls) (hsub : ∀ q ∈ led, q ∈ all)
    (hrs : ∀ le, ExL e (.type cls) le → (∀ p ∈ le, ∀ q ∈ led, p.1 ≠ q.1) → rs (.ref e) (le ++ led)) (hA : A.frames = some (env :: envs)) (hf : env.frame = some L) (hke : env.scope.kind = .function) :
    notedBy (MG w) A env (fun x s' => cameBackBy (MG w) A env (BodyE w A env g L envs s rs) x s') (.ref e) { s with heap := h', toks := tk } := by
  refine hideG fun G0 k0 => ?_; obtain ⟨oe, F1, N1, x1, ap1⟩ := exc_new F (news_sub N hsub) hx; refine k0 ?_; clear k0 G0
  refine out_of_loop (s := { s with heap := h', toks := tk }) B F1 N1 ap1 hA hf hke x1 fun g2 h2 l2 x2 S2 B2 F2 N2 ap2 => ?_
  refine leave_here (s := { s with heap := h2, toks := tk }) B2 F2 N2 ap2 hf x2 fun g3 h3 l3 x3 S3 B3 F3 N3 ap3 => ?_
  exact bodyE_of ((Sl.trans S2).trans S3) F3 N3 (hrs l3 (.inl x3) ap3)
end
end Mine
end

section
open PySem PySem.Spec PySem.Calls PySem.W PyProof.Rows
set_option Elab.async false
set_option linter.unusedVariables false
namespace Mine
structure Nx (M : Model) (A : Around) (env : Env) (rest : List Stmt) (Q : Flow → Shared → Prop) (E : Value → Shared → Prop) (Qc : Flow → Shared → Prop) : Prop where
  next : ∀ s', wpAny M A (execs rest env) Q E s' → Qc .next s'
  other : ∀ f s', f ≠ .next → Q f s' → Qc f s'
theorem Nx.ret {M : Model} {A : Around} {env : Env} {rest : List Stmt} {Q Qc : Flow → Shared → Prop} {E : Value → Shared → Prop} (h : Nx M A env rest Q E Qc) {v : Value} {s : Shared} (q : Q (.ret v) s) : Qc (.ret v) s := h.other _ _ (fun e => nomatch e) q
theorem Nx.brk {M : Model} {A : Around} {env : Env} {rest : List Stmt} {Q Qc : Flow → Shared → Prop} {E : Value → Shared → Prop} (h : Nx M A env rest Q E Qc) {s : Shared} (q : Q .brk s) : Qc .brk s := h.other _ _ (fun e => nomatch e) q
theorem Nx.cont {M : Model} {A : Around} {env : Env} {rest : List Stmt} {Q Qc : Flow → Shared → Prop} {E : Value → Shared → Prop} (h : Nx M A env rest Q E Qc) {s : Shared} (q : Q .cont s) : Qc .cont s := h.other _ _ (fun e => nomatch e) q
theorem execs_h {M : Model} {A : Around} {env : Env} {st : Stmt} {rest : List Stmt} {Q : Flow → Shared → Prop} {E : Value → Shared → Prop} {s : Shared}
    (h : ∀ Qc, Nx M A env rest Q E Qc → wpAny M A (exec st env) Qc E s) : wpAny M A (execs (st :: rest) env) Q E s :=
  wpAny_execs_cons (h _ ⟨fun _ h => h, fun f s' hf h => by cases f <;> first | exact absurd rfl hf | exact h⟩)
end Mine
end

section
open PySem PySem.Spec PySem.Calls PySem.W PyProof.Rows PyProof.Rows.LCg PySem.SeqAt
set_option Elab.async false
set_option maxRecDepth 100000
set_option maxHeartbeats 2000000
set_option linter.unusedVariables false
namespace Mine
noncomputable def RefusedPost (led : List (Addr × Obj)) (e : Value) (l : List (Addr × Obj)) : Prop := ∃ ea le, e = .ref ea ∧ ExL ea (.type "ValueError") le ∧ l = le ++ led ∧ ∀ p ∈ le, ∀ q ∈ led, p.1 ≠ q.1
section
variable {w : World} {base : Heap} {p : Program} {loose : List Str} {mean : ExcName → Option Value} {mg mb : Str → Option Value}
theorem doneR_new (X : (k0.heap_1 w.params).In base) (T : Top p loose mean mg mb base) (S : Addr) (k : Int) (t : Tok) (st : Ps) (led : List (Addr × Obj)) (hS : SorterAt w S st led) (hk : k ∉ keysN st.ns) (hk0 : 0 ≤ k) (hk4 : k ≤ 4) :
    Con w base 120 [.ref S, .int k t] 2 led (fun _ _ => False) (RefusedPost led) := by
  k_with_none
  k_with "walk1" => first | (with_reducible refine Nx.next (by assumption) _ ?_; (try clear hN); (try clear Qc)) | (with_reducible refine Nx.ret (by assumption) ?_; (try clear hN); (try clear Qc)) | (with_reducible refine Nx.brk (by assumption) ?_; (try clear hN); (try clear Qc)) | (with_reducible refine Nx.cont (by assumption) ?_; (try clear hN); (try clear Qc))
  k_with "execs cons" => (refine execs_h fun Qc hN => ?_)
  k_with "call builtin:dict.get" => (k_here; (with_reducible show wpAny _ _ (call (Value.builtin _) [Value.ref _, Value.int _ _]) _ _ _); k_dflt (first | (refine' dget_some ?N ?m ?d ?lo ?v ?_; (case N => k_asm); (case m => k_mem); (case d => assumption); (case lo => assumption); (case v => assumption); k_whole) | (refine' dget_none ?N ?m ?d ?lo ?v ?_; (case N => k_asm); (case m => k_mem); (case d => assumption); (case lo => assumption); (case v => assumption); k_whole)))
  k_with "getMethod ref" => (k_here; (with_reducible show wpAny _ _ (getMethod (Value.ref _) (Str.ofString "get") _) _ _ _); k_dflt (refine' kdg_method (knd := PySem.intKind _ _) ?N ?m ?d ?_; (case N => k_asm); (case m => k_mem); (case d => assumption); k_whole))
  k_with "k_all" => assumption
  k_with "eval JoinedStr" => refine here ?_
  k_with "exec For Name Name cons nil" => refine here ?_
  refine hideG fun G0 k0 => ?_; obtain ⟨dS, N2, R, d, oN, rv, n, l, rfl, hS⟩ := hS; refine k0 ?_; clear k0 G0
  refine' Con.ofS (binds := fun D => [(Str.ofString "self", .ref S), (Str.ofString "nodes", .ref D)]) (ot := tupOf #[.int k t] 0) X T ?ho ?hcd ?hf ?hb ?hl ?hn ?h ?c2 ?c3 ?c4
  k_dflt ((case ho => k_is); (case hcd => k_is); (case hf => exact rfl); (case hb => exact ⟨_, rfl, fun _ => rfl⟩); (case hl => exact fun _ => rfl); (case hn => decide +kernel); (case c2 => exact rfl); (case c3 => exact rfl); (case c4 => exact rfl))
  intro dp envs gd un s g L h₁ tk cells D hdp hun B Xg Tg F N Y hlt hDL
  have Y' : CellsAre _ ([] : List (Str × Addr)) cells := Y
  cases Y'
  simp only [List.cons_append, List.nil_append] at N
  replace F := fr_cong (m' := fun y => if y = Str.ofString "nodes" then some (.ref D) else if y = Str.ofString "self" then some (.ref S) else none) F (fun y => by simp only [bindL]; rfl)
  have hdict := hS.dict
  have hlow := hS.low
  have hv : valueAt (kvOf l) k = none := kv_none (by rw [hS.rp.keys]; exact hk)
  try k_fold
  k_steps
  refine for_E ?_ (fun _ => rfl)
  k_steps
  rename_i h3 F3 N3
  refine for_LE (L := L) (source_tuple (by rfl) F3 N3 (.head _)) (fun q hq => by rw [List.mem_singleton.mp hq]; exact .head _)
    (fun i m' led => i = 0 ∧ (∃ o, m' = fun y => if y = Str.ofString "node" then o else if y = Str.ofString "n2i" then some (.ref N2) else if y = Str.ofString "nodes" then some (.ref D) else if y = Str.ofString "self" then some (.ref S) else none) ∧ led = (D, tupOf #[.int k t] 0) :: (cled S dS N2 R d oN rv n st.p st.f ++ nled l)) ?_ B ?_ ?_ ?_ rfl rfl rfl
  · rintro i m' led ⟨_, _, rfl⟩ q hq; rw [List.mem_singleton.mp hq]; exact .head _
  · refine ⟨rfl, ⟨none, funext fun y => ?_⟩, rfl⟩
    by_cases e : y = Str.ofString "node"
    · subst e; rfl
    · simp [e]
  · intro I i v g' m' led o h tk' hi hP hP1 Sl B' F' N' hI; refine hideG fun G0 k0 => ?_; obtain ⟨rfl, ⟨ov, rfl⟩, rfl⟩ := hP1; refine k0 ?_; clear k0 G0
    obtain rfl : v = .int k t := (Option.some.inj (show some (Value.int k t) = some v from hP)).symm
    clear F3 N3 hlt Xg Tg B Y
    have Xg := X.keeps B'.stays
    have Tg := T.keeps B'.stays
    simp only [List.cons_append, List.nil_append] at N'
    try k_fold
    k_steps
    refine joined3 (k := k) (t := t) (fun Q' tk q => ?_) hk0 hk4 (by decide) (by decide) fun txt t' tk => ?_
    · k_steps
      exact q
    k_steps
    exact raise_loop Sl B' (by assumption) (by assumption) (by assumption) (fun q hq => .tail _ (.tail _ hq)) (fun le hle ap => ⟨_, le, rfl, hle, rfl, ap⟩) rfl rfl rfl
  · rintro g' m' led h tk' ⟨h1, _⟩
    cases h1

theorem doneR_unp (X : (k0.heap_1 w.params).In base) (T : Top p loose mean mg mb base) (S dS N2 : Addr) (d : Sd) (pv f : Int) (v : Value) (led : List (Addr × Obj)) (hS : (S, instObj 137 dS) ∈ led) (hd : (dS, sdict d N2 .none pv f) ∈ led) :
    Con w base 120 [.ref S, v] 2 led (fun _ _ => False) (RefusedPost led) := by
  k_with_none
  k_with "walk1" => first | (with_reducible refine Nx.next (by assumption) _ ?_; (try clear hN); (try clear Qc)) | (with_reducible refine Nx.ret (by assumption) ?_; (try clear hN); (try clear Qc)) | (with_reducible refine Nx.brk (by assumption) ?_; (try clear hN); (try clear Qc)) | (with_reducible refine Nx.cont (by assumption) ?_; (try clear hN); (try clear Qc))
  k_with "execs cons" => (refine execs_h fun Qc hN => ?_)
  k_with "call builtin:dict.get" => (k_here; (with_reducible show wpAny _ _ (call (Value.builtin _) [Value.ref _, Value.int _ _]) _ _ _); k_dflt (first | (refine' dget_some ?N ?m ?d ?lo ?v ?_; (case N => k_asm); (case m => k_mem); (case d => assumption); (case lo => assumption); (case v => assumption); k_whole) | (refine' dget_none ?N ?m ?d ?lo ?v ?_; (case N => k_asm); (case m => k_mem); (case d => assumption); (case lo => assumption); (case v => assumption); k_whole)))
  k_with "getMethod ref" => (k_here; (with_reducible show wpAny _ _ (getMethod (Value.ref _) (Str.ofString "get") _) _ _ _); k_dflt (refine' kdg_method (knd := PySem.intKind _ _) ?N ?m ?d ?_; (case N => k_asm); (case m => k_mem); (case d => assumption); k_whole))
  k_with "k_all" => assumption
  k_with "eval JoinedStr" => refine here ?_
  k_with "exec For Name Name cons nil" => refine here ?_
  refine' Con.ofS (binds := fun D => [(Str.ofString "self", .ref S), (Str.ofString "nodes", .ref D)]) (ot := tupOf #[v] 0) X T ?ho ?hcd ?hf ?hb ?hl ?hn ?h ?c2 ?c3 ?c4
  k_dflt ((case ho => k_is); (case hcd => k_is); (case hf => exact rfl); (case hb => exact ⟨_, rfl, fun _ => rfl⟩); (case hl => exact fun _ => rfl); (case hn => decide +kernel); (case c2 => exact rfl); (case c3 => exact rfl); (case c4 => exact rfl))
  intro dp envs gd un s g L h₁ tk cells D hdp hun B Xg Tg F N Y hlt hDL
  have Y' : CellsAre _ ([] : List (Str × Addr)) cells := Y
  cases Y'
  clear Y
  replace F := fr_cong (m' := fun y => if y = Str.ofString "nodes" then some (.ref D) else if y = Str.ofString "self" then some (.ref S) else none) F (fun y => by simp only [bindL]; rfl)
  have N2' : News g L h₁ ((S, instObj 137 dS) :: (dS, sdict d N2 .none pv f) :: led) := fun q hq => by
    revert q; refine all_cons (N _ (.tail _ hS)) ?_; refine all_cons (N _ (.tail _ hd)) ?_; intro q hq; exact N _ (.tail _ hq)
  clear N
  try k_fold
  k_steps
  exact raise_end (Slid.refl ..) B (by assumption) (by assumption) (by assumption) (fun q hq => .tail _ (.tail _ hq)) (fun le hle ap => ⟨_, le, rfl, hle, rfl, ap⟩) rfl rfl rfl

theorem doneR_old (X : (k0.heap_1 w.params).In base) (T : Top p loose mean mg mb base) (S : Addr) (k : Int) (t : Tok) (st : Ps) (led : List (Addr × Obj)) (hS : SorterAt w S st led) (hk : k ∈ keysN st.ns) (hk0 : 0 ≤ k) (hk4 : k ≤ 4) (hnp : 0 ≤ npOf st.ns k ∨ npOf st.ns k = -2) :
    Con w base 120 [.ref S, .int k t] 2 led (fun _ _ => False) (RefusedPost led) := by
  k_with_none
  k_with "walk1" => first | (with_reducible refine Nx.next (by assumption) _ ?_; (try clear hN); (try clear Qc)) | (with_reducible refine Nx.ret (by assumption) ?_; (try clear hN); (try clear Qc)) | (with_reducible refine Nx.brk (by assumption) ?_; (try clear hN); (try clear Qc)) | (with_reducible refine Nx.cont (by assumption) ?_; (try clear hN); (try clear Qc))
  k_with "execs cons" => (refine execs_h fun Qc hN => ?_)
  k_with "call builtin:dict.get" => (k_here; (with_reducible show wpAny _ _ (call (Value.builtin _) [Value.ref _, Value.int _ _]) _ _ _); k_dflt (first | (refine' dget_some ?N ?m ?d ?lo ?v ?_; (case N => k_asm); (case m => k_mem); (case d => assumption); (case lo => assumption); (case v => assumption); k_whole) | (refine' dget_none ?N ?m ?d ?lo ?v ?_; (case N => k_asm); (case m => k_mem); (case d => assumption); (case lo => assumption); (case v => assumption); k_whole)))
  k_with "getMethod ref" => (k_here; (with_reducible show wpAny _ _ (getMethod (Value.ref _) (Str.ofString "get") _) _ _ _); k_dflt (refine' kdg_method (knd := PySem.intKind _ _) ?N ?m ?d ?_; (case N => k_asm); (case m => k_mem); (case d => assumption); k_whole))
  k_with "k_all" => assumption
  k_with "eval JoinedStr" => refine here ?_
  k_with "exec For Name Name cons nil" => refine here ?_
  refine hideG fun G0 k0 => ?_; obtain ⟨dS, N2, R, d, oN, rv, n, l, rfl, hS⟩ := hS; refine k0 ?_; clear k0 G0
  refine' Con.ofS (binds := fun D => [(Str.ofString "self", .ref S), (Str.ofString "nodes", .ref D)]) (ot := tupOf #[.int k t] 0) X T ?ho ?hcd ?hf ?hb ?hl ?hn ?h ?c2 ?c3 ?c4
  k_dflt ((case ho => k_is); (case hcd => k_is); (case hf => exact rfl); (case hb => exact ⟨_, rfl, fun _ => rfl⟩); (case hl => exact fun _ => rfl); (case hn => decide +kernel); (case c2 => exact rfl); (case c3 => exact rfl); (case c4 => exact rfl))
  intro dp envs gd un s g L h₁ tk cells D hdp hun B Xg Tg F N Y hlt hDL
  have Y' : CellsAre _ ([] : List (Str × Addr)) cells := Y
  cases Y'
  clear Y
  have hdict := hS.dict
  have hlow := hS.low
  have hrp := hS.rp
  have hkk : k ∈ l.map (·.key) := by rw [hrp.keys]; exact hk
  refine hideG fun G0 k0 => ?_; obtain ⟨la, nd, lb, rfl, rfl, hnk⟩ := nd_split hkk; refine k0 ?_; clear k0 G0
  have hv := kv_at (l2 := lb) hnk
  rw [(hrp.split hnk).1] at hnp
  replace F := fr_cong (m' := fun y => if y = Str.ofString "nodes" then some (.ref D) else if y = Str.ofString "self" then some (.ref S) else none) F (fun y => by simp only [bindL]; rfl)
  have N0 : News g L h₁ ((D, tupOf #[.int nd.key t] 0) :: (nd.ia, nd.obj) :: (nd.da, emptyDict) :: (cled S dS N2 R d oN rv n st.p st.f ++ nled (la ++ nd :: lb))) := fun q hq => by
    revert q; refine all_cons (N _ (.head _)) ?_; refine all_cons (N _ (.tail _ (List.mem_append_right _ (mem_nled.mpr (.inl (.head _)))))) ?_; refine all_cons (N _ (.tail _ (List.mem_append_right _ (mem_nled.mpr (.inl (.tail _ (.head _))))))) ?_; intro q hq; exact N _ (.tail _ hq)
  clear N
  simp only [List.cons_append, List.nil_append] at N0
  try k_fold
  k_steps
  refine for_E ?_ (fun _ => rfl)
  k_steps
  rename_i h3 F3 N3
  refine for_LE (L := L) (source_tuple (by rfl) F3 N3 (.head _)) (fun q hq => by rw [List.mem_singleton.mp hq]; exact .head _)
    (fun i m' led => i = 0 ∧ (∃ o, m' = fun y => if y = Str.ofString "node" then o else if y = Str.ofString "n2i" then some (.ref N2) else if y = Str.ofString "nodes" then some (.ref D) else if y = Str.ofString "self" then some (.ref S) else none) ∧ led = (D, tupOf #[.int nd.key t] 0) :: (nd.ia, nd.obj) :: (nd.da, emptyDict) :: (cled S dS N2 R d oN rv n st.p st.f ++ nled (la ++ nd :: lb))) ?_ B ?_ ?_ ?_ rfl rfl rfl
  · rintro i m' led ⟨_, _, rfl⟩ q hq; rw [List.mem_singleton.mp hq]; exact .head _
  · refine ⟨rfl, ⟨none, funext fun y => ?_⟩, rfl⟩
    by_cases e : y = Str.ofString "node"
    · subst e; rfl
    · simp [e]
  · intro I i v g' m' led o h tk' hi hP hP1 Sl B' F' N' hI; refine hideG fun G0 k0 => ?_; obtain ⟨rfl, ⟨ov, rfl⟩, rfl⟩ := hP1; refine k0 ?_; clear k0 G0
    obtain rfl : v = .int nd.key t := (Option.some.inj (show some (Value.int nd.key t) = some v from hP)).symm
    clear F3 N3 hlt Xg Tg B
    have Xg := X.keeps B'.stays
    have Tg := T.keeps B'.stays
    simp only [List.cons_append, List.nil_append] at N'
    try k_fold
    k_steps
    all_goals try (exfalso; omega)
    all_goals
      refine joined3 (k := nd.key) (t := t) (fun Q' tk q => ?_) hk0 hk4 (by decide) (by decide) fun txt t' tk => ?_
      · k_steps
        exact q
      k_steps
      exact raise_loop Sl B' (by assumption) (by assumption) (by assumption) (fun q hq => .tail _ (.tail _ (.tail _ (.tail _ hq)))) (fun le hle ap => ⟨_, le, rfl, hle, rfl, ap⟩) rfl rfl rfl
  · rintro g' m' led h tk' ⟨h1, _⟩
    cases h1
end
end Mine
end

section
open PySem PySem.Spec PySem.Calls PySem.W PyProof.Rows PyProof.Rows.LCg PySem.SeqAt
set_option Elab.async false
set_option maxRecDepth 100000
set_option maxHeartbeats 2000000
set_option linter.unusedVariables false
namespace Mine
noncomputable def Nd.core (n : Nd) : Nd := { n with np := 0, nt := 0 }
theorem core_set (n : Nd) (v : Int) (t : Tok) : Nd.core { n with np := v, nt := t } = n.core := rfl
theorem kv_core {l l' : List Nd} (h : l'.map Nd.core = l.map Nd.core) : kvOf l' = kvOf l := by
  have e : ∀ x : List Nd, kvOf x = kvOf (x.map Nd.core) := fun x => by simp [kvOf, Nd.core]
  rw [e l', h, ← e l]
theorem ad_core {l l' : List Nd} (h : l'.map Nd.core = l.map Nd.core) : (nled l').map (·.1) = (nled l).map (·.1) := by
  have e : ∀ x : List Nd, (nled x).map (·.1) = (nled (x.map Nd.core)).map (·.1) := fun x => by
    induction x with
    | nil => rfl
    | cons a x ih => simp only [nled, List.map_cons, List.flatMap_cons, List.map_append] at ih ⊢; rw [ih]; rfl
  rw [e l', h, ← e l]
theorem sl_core {l l' : List Nd} (h : l'.map Nd.core = l.map Nd.core) {n : Nd} (hn : n ∈ l) : (n.sa, W.listOf n.vs.toArray n.ct) ∈ nled l' := by
  have : n.core ∈ l'.map Nd.core := h ▸ List.mem_map_of_mem hn
  refine hideG fun G0 k0 => ?_; obtain ⟨x, hx, e⟩ := List.mem_map.mp this; refine k0 ?_; clear k0 G0
  have e1 : x.sa = n.sa := by have := congrArg Nd.sa e; exact this
  have e2 : x.vs = n.vs := by have := congrArg Nd.vs e; exact this
  have e3 : x.ct = n.ct := by have := congrArg Nd.ct e; exact this
  exact List.mem_flatMap.mpr ⟨x, hx, by rw [← e1, ← e2, ← e3]; simp [Nd.led]⟩
theorem set_core {la lb : List Nd} {n : Nd} {v : Int} {t : Tok} {l : List Nd} (h : (la ++ n :: lb).map Nd.core = l.map Nd.core) : (la ++ { n with np := v, nt := t } :: lb).map Nd.core = l.map Nd.core := by
  rw [← h]; simp [core_set]
noncomputable def decPs (a : List Pn × List Int) (j : Int) : List Pn × List Int := (setNp j (npOf a.1 j - 1) a.1, if npOf a.1 j - 1 = 0 then a.2 ++ [j] else a.2)
noncomputable def donePs (st : Ps) (k : Int) : Ps :=
  let r := (suOf st.ns k).foldl decPs (setNp k (-2) st.ns, st.ready)
  { ns := r.1, ready := r.2, p := st.p, f := st.f + 1 }
theorem dec_keys (ks : List Int) : ∀ a : List Pn × List Int, keysN (ks.foldl decPs a).1 = keysN a.1 := by
  induction ks with
  | nil => intro a; rfl
  | cons k ks ih => intro a; rw [List.foldl_cons, ih]; exact keysN_set _ _ _
theorem dec_len (ks : List Int) : ∀ a : List Pn × List Int, (ks.foldl decPs a).2.length ≤ a.2.length + ks.length := by
  induction ks with
  | nil => intro a; exact Nat.le_refl _
  | cons k ks ih =>
    intro a
    rw [List.foldl_cons]
    refine Nat.le_trans (ih _) ?_
    simp only [decPs, List.length_cons]
    split
    · simp only [List.length_append, List.length_singleton]; omega
    · omega
theorem node_back {g h : Heap} {L : Addr} {sd : Nd} {v : Int} {tt : Tok} {C : List (Addr × Obj)} {la lb : List Nd} (N : News g L h ((sd.ia, (⟨.ref 40, some sd.da, .plain, #[some (.int sd.key sd.kt), some (.int v tt), some (.ref sd.sa)]⟩ : Obj)) :: (sd.da, emptyDict) :: (sd.sa, W.listOf sd.vs.toArray sd.ct) :: (C ++ (nled la ++ nled lb)))) :
    ∃ tt, News g L h (C ++ nled (la ++ { sd with np := v, nt := tt } :: lb)) := ⟨tt, nled_mem_to (n := { sd with np := v, nt := tt }) N⟩
theorem dict_f {g h : Heap} {L dS N2 : Addr} {d : Sd} {r : Value} {pv fv : Int} {tt : Tok} {C rest : List (Addr × Obj)} (N : News g L h (C ++ (dS, dictOf [⟨d.e1, .str (Str.ofString "_node2info") d.k1, .ref N2⟩, ⟨d.e2, .str (Str.ofString "_ready_nodes") d.k2, r⟩, ⟨d.e3, .str (Str.ofString "_npassedout") d.k3, .int pv d.t3⟩, ⟨d.e4, .str (Str.ofString "_nfinished") d.k4, .int fv tt⟩] 4) :: rest)) :
    ∃ d', News g L h (C ++ (dS, sdict d' N2 r pv fv) :: rest) := ⟨{ d with t4 := tt }, N⟩
inductive DoneM (N2 D S : Addr) (m' : Str → Option Value) : Prop
  | mk (o1 o2 o3 o4 o5 : Option Value) (e : m' = fun y => if y = Str.ofString "successor_info" then o5 else if y = Str.ofString "successor" then o4 else if y = Str.ofString "stat" then o3 else if y = Str.ofString "nodeinfo" then o2 else if y = Str.ofString "node" then o1 else if y = Str.ofString "n2i" then some (.ref N2) else if y = Str.ofString "nodes" then some (.ref D) else if y = Str.ofString "self" then some (.ref S) else none) : DoneM N2 D S m'
inductive DoneM2 (nd : Nd) (t : Tok) (N2 D S : Addr) (m' : Str → Option Value) : Prop
  | mk (o6 o7 : Option Value) (e : m' = fun y => if y = Str.ofString "successor_info" then o7 else if y = Str.ofString "successor" then o6 else if y = Str.ofString "stat" then some (Value.int nd.np nd.nt) else if y = Str.ofString "nodeinfo" then some (Value.ref nd.ia) else if y = Str.ofString "node" then some (Value.int nd.key t) else if y = Str.ofString "n2i" then some (.ref N2) else if y = Str.ofString "nodes" then some (.ref D) else if y = Str.ofString "self" then some (.ref S) else none) : DoneM2 nd t N2 D S m'
inductive DoneJ (w : World) (st : Ps) (nd : Nd) (t : Tok) (l1 l2 : List Nd) (D S dS N2 R : Addr) (d : Sd) (oN : Obj) (rv : List Value) (n : Nat) (i : Nat) (m' : Str → Option Value) (led : List (Addr × Obj)) : Prop
  | mk (hm : DoneM N2 D S m') (h : (i = 0 ∧ led = (D, tupOf #[.int nd.key t] 0) :: (cled S dS N2 R d oN rv n st.p st.f ++ nled (l1 ++ nd :: l2))) ∨ (i = 1 ∧ ∃ led', led = (D, tupOf #[.int nd.key t] 0) :: led' ∧ SorterAt w S (donePs st nd.key) led')) : DoneJ w st nd t l1 l2 D S dS N2 R d oN rv n i m' led
inductive DoneK (st : Ps) (nd : Nd) (t : Tok) (l1 l2 : List Nd) (I : Addr) (oI : Obj) (D S dS N2 R : Addr) (d : Sd) (oN : Obj) (i : Nat) (m' : Str → Option Value) (led : List (Addr × Obj)) : Prop
  | mk (hm : DoneM2 nd t N2 D S m') (l' : List Nd) (rv' : List Value) (n' : Nat) (e : led = (I, oI) :: (D, tupOf #[.int nd.key t] 0) :: (cled S dS N2 R d oN rv' n' st.p st.f ++ nled l')) (hc : l'.map Nd.core = (l1 ++ nd :: l2).map Nd.core) (hr : Rp l' (((suOf st.ns nd.key).take i).foldl decPs (setNp nd.key (-2) st.ns, st.ready)).1) (hi : IntsAre rv' (((suOf st.ns nd.key).take i).foldl decPs (setNp nd.key (-2) st.ns, st.ready)).2) : DoneK st nd t l1 l2 I oI D S dS N2 R d oN i m' led
section
variable {w : World} {base : Heap} {p : Program} {loose : List Str} {mean : ExcName → Option Value} {mg mb : Str → Option Value}
theorem done_con (X : (k0.heap_1 w.params).In base) (T : Top p loose mean mg mb base) (S : Addr) (k : Int) (t : Tok) (st : Ps) (led : List (Addr × Obj)) (hS : SorterAt w S st led) (hk : k ∈ keysN st.ns) (hnp : npOf st.ns k = -1)
    (hsu : ∀ j ∈ suOf st.ns k, j ∈ keysN st.ns) (hsl : (suOf st.ns k).length ≤ 4) (hrl : (donePs st k).ready.length ≤ 4) :
    Con w base 120 [.ref S, .int k t] 2 led (fun v l => v = .none ∧ SorterAt w S (donePs st k) l) (fun _ _ => False) := by
  k_with_none
  k_with "call builtin:dict.get" => (k_here; (with_reducible show wpAny _ _ (call (Value.builtin _) [Value.ref _, Value.int _ _]) _ _ _); k_dflt (first | (refine' dget_some (by k_asm) (by k_mem) (by assumption) (by assumption) (by assumption) ?_; k_whole) | (refine' dget_none (by k_asm) (by k_mem) (by assumption) (by assumption) (by assumption) ?_; k_whole)))
  k_with "getMethod ref" => (k_here; (with_reducible show wpAny _ _ (getMethod (Value.ref _) (Str.ofString "get") _) _ _ _); k_dflt (refine' kdg_method (knd := PySem.intKind _ _) (by k_asm) (by k_mem) (by assumption) ?_; k_whole))
  k_with "subscriptTail" => (k_here; (with_reducible show wpAny _ _ (subscriptTail _ _ (Value.ref _) (Value.int _ _)) _ _ _); k_dflt (refine' kda_item (knd := PySem.intKind _ _) (by k_asm) (by k_mem) (by assumption) (intKind_is _ _ _ _) (by assumption) ?_; k_whole))
  k_with "k_all" => assumption
  k_with "eval JoinedStr" => refine here ?_
  k_with "k_ne" => first | assumption | (refine Ne.symm ?_; assumption)
  k_with "exec For Name Name cons nil" => refine here ?_
  k_with "exec For Name Attribute cons nil" => refine here ?_
  refine hideG fun G0 k0 => ?_; obtain ⟨dS, N2, R, d, oN, rv, n, l, rfl, hS⟩ := hS; refine k0 ?_; clear k0 G0
  refine' Con.ofS (binds := fun D => [(Str.ofString "self", .ref S), (Str.ofString "nodes", .ref D)]) (ot := tupOf #[.int k t] 0) X T ?ho ?hcd ?hf ?hb ?hl ?hn ?h ?c2 ?c3 ?c4
  k_dflt ((case ho => k_is); (case hcd => k_is); (case hf => exact rfl); (case hb => exact ⟨_, rfl, fun _ => rfl⟩); (case hl => exact fun _ => rfl); (case hn => decide +kernel); (case c2 => exact rfl); (case c3 => exact rfl); (case c4 => exact rfl))
  intro dp envs gd un s g L h₁ tk cells D hdp hun B Xg Tg F N Y hlt hDL
  have Y' : CellsAre _ ([] : List (Str × Addr)) cells := Y
  cases Y'
  clear Y
  have hlow := hS.low
  have hrp := hS.rp
  have hkk : k ∈ l.map (·.key) := by rw [hrp.keys]; exact hk
  refine hideG fun G0 k0 => ?_; obtain ⟨l1, nd, l2, rfl, rfl, hnk⟩ := nd_split hkk; refine k0 ?_; clear k0 G0
  have hv := kv_at (l2 := l2) hnk
  obtain ⟨hnd1, hnd2⟩ := hrp.split hnk
  rw [hnd1] at hnp
  have hkn : ((l1 ++ nd :: l2).map (·.key)).Nodup := by rw [hrp.keys]; exact hS.nd
  replace F := fr_cong (m' := fun y => if y = Str.ofString "nodes" then some (.ref D) else if y = Str.ofString "self" then some (.ref S) else none) F (fun y => by simp only [bindL]; rfl)
  simp only [List.cons_append, List.nil_append] at N
  have hltD : ∀ a ∈ S :: dS :: N2 :: R :: (nled (l1 ++ nd :: l2)).map (·.1), @LT.lt Nat _ a D := fun a ha => by
    have : a ∈ (cled S dS N2 R d oN rv n st.p st.f ++ nled (l1 ++ nd :: l2)).map (·.1) := by simpa using ha
    refine hideG fun G0 k0 => ?_; obtain ⟨q, hq, rfl⟩ := List.mem_map.mp this; refine k0 ?_; clear k0 G0
    exact hlt q hq
  refine hide1 fun Q1 hQ1 => ?_
  try k_fold
  k_steps
  refine for_E ?_ (fun _ => rfl)
  k_steps
  rename_i h3 F3 N3
  refine for_L (L := L) (source_tuple (by rfl) F3 N3 (.head _)) (fun q hq => by rw [List.mem_singleton.mp hq]; exact .head _)
    (DoneJ w st nd t l1 l2 D S dS N2 R d oN rv n) ?_ B ?_ ?_ ?_ rfl rfl rfl
  · rintro i m' led ⟨_, ⟨_, rfl⟩ | ⟨_, led', rfl, _⟩⟩ q hq <;> (rw [List.mem_singleton.mp hq]; exact .head _)
  · refine ⟨⟨none, none, none, none, none, funext fun y => ?_⟩, .inl ⟨rfl, rfl⟩⟩
    by_cases e1 : y = Str.ofString "node"
    · subst e1; rfl
    by_cases e2 : y = Str.ofString "nodeinfo"
    · subst e2; rfl
    by_cases e3 : y = Str.ofString "stat"
    · subst e3; rfl
    by_cases e4 : y = Str.ofString "successor"
    · subst e4; rfl
    by_cases e5 : y = Str.ofString "successor_info"
    · subst e5; rfl
    simp [e1, e2, e3, e4, e5]
  · rintro I i v g' m' led o h tk' hi hP ⟨⟨o1, o2, o3, o4, o5, rfl⟩, ⟨rfl, rfl⟩ | ⟨rfl, _⟩⟩ Sl B' F' N' hI
    · obtain rfl : v = .int nd.key t := (Option.some.inj (show some (Value.int nd.key t) = some v from hP)).symm
      clear F3 N3 hlt Xg Tg B
      have Xg := X.keeps B'.stays
      have Tg := T.keeps B'.stays
      have hdict := hS.dict
      have hfr := hS.ap.front
      simp only [List.cons_append, List.nil_append, List.nodup_cons, List.mem_cons, not_or, List.mem_map, not_exists, not_and] at hfr
      refine hideG fun G0 k0 => ?_; obtain ⟨⟨a1, a2, a3, a4, a5, a6, a7⟩, _⟩ := hfr; refine k0 ?_; clear k0 G0
      have i1 : nd.ia ≠ I := hI _ (.tail _ (List.mem_append_right _ (mem_nled.mpr (.inl (.head _)))))
      have i2 : nd.ia ≠ D := Nat.ne_of_lt (hltD _ (.tail _ (.tail _ (.tail _ (.tail _ (List.mem_map_of_mem (f := (·.1)) (mem_nled.mpr (.inl (.head _)))))))))
      have N4 := nled_mem_of (C := (I, o) :: (D, tupOf #[.int nd.key t] 0) :: cled S dS N2 R d oN rv n st.p st.f) N'
      clear N'
      simp only [List.cons_append, List.nil_append] at N4
      refine hide1 fun Q2 hQ2 => ?_
      try k_fold
      k_steps
      all_goals try (exfalso; omega)
      refine for_E ?_ (fun _ => rfl)
      k_steps
      rename_i h5 F5 N5
      have N6 : News g' L h5 ((I, o) :: (D, tupOf #[.int nd.key t] 0) :: (cled S dS N2 R d oN rv n st.p st.f ++ nled (l1 ++ { nd with np := -2, nt := 200 } :: l2))) := nled_mem_to (n := { nd with np := -2, nt := 200 }) (C := (I, o) :: (D, tupOf #[.int nd.key t] 0) :: cled S dS N2 R d oN rv n st.p st.f) N5
      clear N5
      have hmem : nd ∈ l1 ++ nd :: l2 := by simp
      have hadI : ∀ a ∈ S :: dS :: N2 :: R :: (nled (l1 ++ nd :: l2)).map (·.1), a ≠ I := fun a ha => by
        have : a ∈ (cled S dS N2 R d oN rv n st.p st.f ++ nled (l1 ++ nd :: l2)).map (·.1) := by simpa using ha
        refine hideG fun G0 k0 => ?_; obtain ⟨q, hq, rfl⟩ := List.mem_map.mp this; refine k0 ?_; clear k0 G0
        exact hI q (.tail _ hq)
      have hadD : ∀ a ∈ S :: dS :: N2 :: R :: (nled (l1 ++ nd :: l2)).map (·.1), a ≠ D := fun a ha => Nat.ne_of_lt (hltD a ha)
      have hID : D ≠ I := hI _ (.head _)
      refine for_L (L := L) (source_list (by rfl) F5 N6 (.tail _ (.tail _ (List.mem_append_right _ (sl_core (set_core rfl) hmem))))) (fun q hq => by rw [List.mem_singleton.mp hq]; exact (.tail _ (.tail _ (List.mem_append_right _ (sl_core (set_core rfl) hmem)))))
        (DoneK st nd t l1 l2 I o D S dS N2 R d oN) ?_ B' ?_ ?_ ?_ rfl rfl rfl
      · intro i m' led hP1 q hq; refine hideG fun G0 k0 => ?_; obtain ⟨_, l', rv', n', rfl, hco, _⟩ := hP1; refine k0 ?_; clear k0 G0
        rw [List.mem_singleton.mp hq]
        exact (.tail _ (.tail _ (List.mem_append_right _ (sl_core hco hmem))))
      · refine ⟨⟨o4, o5, funext fun y => ?_⟩, _, rv, n, rfl, set_core rfl, hrp.set hkn, hS.ready⟩
        by_cases e1 : y = Str.ofString "node"
        · subst e1; rfl
        by_cases e2 : y = Str.ofString "nodeinfo"
        · subst e2; rfl
        by_cases e3 : y = Str.ofString "stat"
        · subst e3; rfl
        simp [e1, e2, e3]
      · intro I2 j v g2 m' led o' h' tk2 hj hPj hP1 S2 B2 F2 N2' hI2; refine hideG fun G0 k0 => ?_; obtain ⟨⟨o6, o7, rfl⟩, l', rv', n', rfl, hco, hrp', hrv⟩ := hP1; refine k0 ?_; clear k0 G0
        refine hideG fun G0 k0 => ?_; obtain ⟨ts, sk, rfl, hki⟩ := ints_at' hnd2 (by simpa using hPj); refine k0 ?_; clear k0 G0
        have hkk' : sk ∈ l'.map (·.key) := by rw [hrp'.keys, dec_keys, keysN_set]; exact hsu _ (List.mem_of_getElem? hki)
        have hkn' : (l'.map (·.key)).Nodup := by rw [hrp'.keys, dec_keys, keysN_set]; exact hS.nd
        refine hideG fun G0 k0 => ?_; obtain ⟨la, sd, lb, rfl, rfl, hnk'⟩ := nd_split hkk'; refine k0 ?_; clear k0 G0
        have hap : Ap [S, dS, N2, R] (la ++ sd :: lb) := by unfold Ap; rw [ad_core hco]; exact hS.ap
        have hv' := kv_at (l2 := lb) hnk'
        have hdict' : oN.IsDictOf (PySem.intKind PySem.Challenge.rw_ny0334_01.prog w) (kvOf (la ++ sd :: lb)) := by rw [kv_core hco]; exact hS.dict
        have hsp := (hrp'.split hnk').1
        have hfr := hap.front
        simp only [List.cons_append, List.nil_append, List.nodup_cons, List.mem_cons, not_or, List.mem_map, not_exists, not_and] at hfr
        refine hideG fun G0 k0 => ?_; obtain ⟨⟨b1, b2, b3, b4, b5, b6, b7⟩, ⟨_, _, _, _, bR, _⟩, ⟨_, _, _, cR, _⟩, ⟨_, _, d6, _⟩, ⟨_, e6, _⟩, ⟨f6, _⟩, ⟨g7, _⟩⟩ := hfr; refine k0 ?_; clear k0 G0
        have adm : ∀ q ∈ sd.led, q.1 ∈ S :: dS :: N2 :: R :: (nled (l1 ++ nd :: l2)).map (·.1) := fun q hq => by
          rw [← ad_core hco]
          exact .tail _ (.tail _ (.tail _ (.tail _ (List.mem_map_of_mem (f := (·.1)) (mem_nled.mpr (.inl hq))))))
        have i3 : sd.ia ≠ I := hadI _ (adm (sd.ia, sd.obj) (.head _))
        have i4 : sd.ia ≠ D := hadD _ (adm (sd.ia, sd.obj) (.head _))
        have i5 : sd.ia ≠ I2 := hI2 _ (.tail _ (.tail _ (List.mem_append_right _ (mem_nled.mpr (.inl (.head _))))))
        have i6 : R ≠ I := hadI _ (by simp)
        have i7 : R ≠ D := hadD _ (by simp)
        have i8 : R ≠ I2 := hI2 (R, W.listOf rv'.toArray n') (.tail _ (.tail _ (.tail _ (.tail _ (.tail _ (.head _))))))
        have hrl' : rv'.length ≤ 8 := by
          rw [hrv.length]
          refine Nat.le_trans (dec_len _ _) ?_
          have := hS.rlen
          simp only [List.length_take]
          omega
        clear F5 N6 Xg Tg
        have Xg := X.keeps B2.stays
        have Tg := T.keeps B2.stays
        have N7 := nled_mem_of (C := (I2, o') :: (I, o) :: (D, tupOf #[.int nd.key t] 0) :: cled S dS N2 R d oN rv' n' st.p st.f) N2'
        clear N2'
        simp only [List.cons_append, List.nil_append] at N7
        refine hide1 fun Q3 hQ3 => ?_
        try k_fold
        k_steps
        · rename_i hz h9 F9 N9
          rw [List.push_toArray] at N9
          obtain ⟨tt, N10⟩ := node_back (C := (I2, o') :: (I, o) :: (D, tupOf #[.int nd.key t] 0) :: cled S dS N2 R d oN (rv' ++ [.int sd.key ts]) (n' + 1) st.p st.f) N9
          refine hQ3 _ _ ?_
          show Goes envs g2 L _ _ _
          refine ⟨g2, _, _, h9, _, rfl, Slid.refl .., F9, N10, _, rfl, ⟨⟨some (.int sd.key ts), some (.ref sd.ia), funext fun y => ?_⟩, _, _, _, rfl, set_core hco, ?_, ?_⟩, off_map hI2 ?_⟩
          · by_cases e1 : y = Str.ofString "successor_info"
            · subst e1; rfl
            by_cases e2 : y = Str.ofString "successor"
            · subst e2; rfl
            simp [e1, e2]
          · rw [foldl_take_succ _ _ _ hki]
            show Rp _ (setNp _ _ _)
            rw [hsp]
            exact hrp'.set hkn'
          · rw [foldl_take_succ _ _ _ hki]
            show IntsAre _ (if _ then _ else _)
            rw [hsp, if_pos (by assumption)]
            exact IntsAre.app hrv (.cons _ _ .nil)
          · show I :: D :: S :: dS :: N2 :: R :: (nled (la ++ { sd with np := sd.np - 1, nt := tt } :: lb)).map (·.1) = I :: D :: S :: dS :: N2 :: R :: (nled (la ++ sd :: lb)).map (·.1)
            rw [nled_addrs_set]
        · rename_i h9 F9 N9 hz
          obtain ⟨tt, N10⟩ := node_back (C := (I2, o') :: (I, o) :: (D, tupOf #[.int nd.key t] 0) :: cled S dS N2 R d oN rv' n' st.p st.f) N9
          refine hQ3 _ _ ?_
          show Goes envs g2 L _ _ _
          refine ⟨g2, _, _, h9, _, rfl, Slid.refl .., F9, N10, _, rfl, ⟨⟨some (.int sd.key ts), some (.ref sd.ia), funext fun y => ?_⟩, _, _, _, rfl, set_core hco, ?_, ?_⟩, off_map hI2 ?_⟩
          · by_cases e1 : y = Str.ofString "successor_info"
            · subst e1; rfl
            by_cases e2 : y = Str.ofString "successor"
            · subst e2; rfl
            simp [e1, e2]
          · rw [foldl_take_succ _ _ _ hki]
            show Rp _ (setNp _ _ _)
            rw [hsp]
            exact hrp'.set hkn'
          · rw [foldl_take_succ _ _ _ hki]
            show IntsAre _ (if _ then _ else _)
            rw [hsp, if_neg hz]
            exact hrv
          · show I :: D :: S :: dS :: N2 :: R :: (nled (la ++ { sd with np := sd.np - 1, nt := tt } :: lb)).map (·.1) = I :: D :: S :: dS :: N2 :: R :: (nled (la ++ sd :: lb)).map (·.1)
            rw [nled_addrs_set]
      · intro g2 m' led h' tk2 hP1 S2 B2 F2 N2'; refine hideG fun G0 k0 => ?_; obtain ⟨⟨o6, o7, rfl⟩, l', rv', n', rfl, hco, hrp', hrv⟩ := hP1; refine k0 ?_; clear k0 G0
        clear F5 N6 Xg Tg
        have Xg := X.keeps B2.stays
        have Tg := T.keeps B2.stays
        have hap : Ap [S, dS, N2, R] l' := by unfold Ap; rw [ad_core hco]; exact hS.ap
        have hap' := hap
        unfold Ap at hap'
        simp only [List.cons_append, List.nil_append, List.nodup_cons, List.mem_cons, not_or, List.mem_map, not_exists, not_and] at hap'
        refine hideG fun G0 k0 => ?_; obtain ⟨⟨d4, d5, d6, _⟩, ⟨e5, e6, e7⟩, _⟩ := hap'; refine k0 ?_; clear k0 G0
        have i3 : dS ≠ I := hadI _ (by simp)
        have i4 : dS ≠ D := hadD _ (by simp)
        simp only [List.cons_append, List.nil_append] at N2'
        dsimp only
        k_steps
        rename_i h9 F9 N9
        have hsz : nd.vs.toArray.size = (suOf st.ns nd.key).length := by rw [List.size_toArray, hnd2.length]
        rw [hsz, List.take_length] at hrp' hrv
        have hkeys : keysN (donePs st nd.key).ns = keysN st.ns := by
          show keysN (List.foldl decPs (setNp nd.key (-2) st.ns, st.ready) (suOf st.ns nd.key)).1 = _
          rw [dec_keys, keysN_set]
        obtain ⟨d', N10⟩ := dict_f (d := d) (C := [(I, o), (D, tupOf #[.int nd.key t] 0), (S, instObj 137 dS)]) (rest := (N2, oN) :: (R, W.listOf rv'.toArray n') :: nled l') N9
        refine hQ2 _ _ ?_
        show Goes envs g' L _ _ _
        refine ⟨g2, _, _, h9, _, rfl, S2, F9, N10, _, rfl, ⟨⟨some (Value.int nd.key t), some (Value.ref nd.ia), some (Value.int nd.np nd.nt), o6, o7, rfl⟩, .inr ⟨by first | rfl | trivial, _, rfl, ⟨dS, N2, R, d', oN, rv', n', l', rfl, ⟨by rw [kv_core hco]; exact hS.dict, hlow, hrv, hrp', by rw [hkeys]; exact hS.nd, hap, ?_, hrl⟩⟩⟩⟩, ?_⟩
        · have := congrArg List.length hkeys
          simp only [keysN, List.length_map] at this
          rw [this]; exact hS.len
        · refine off_map hI ?_
          show D :: S :: dS :: N2 :: R :: (nled l').map (·.1) = D :: S :: dS :: N2 :: R :: (nled (l1 ++ nd :: l2)).map (·.1)
          rw [ad_core hco]
    · have : (1 : Nat) < 1 := hi
      omega
  · rintro g' m' led h tk' ⟨_, ⟨h0, _⟩ | ⟨_, led', rfl, hS'⟩⟩ Sl B' F' N'
    · cases h0
    · dsimp only
      k_steps
      refine hQ1 _ _ ?_
      show BodyQ g L envs s _ .next _
      exact ⟨g', _, _, h, _, rfl, Sl, F', news_sub N' (fun q hq => .tail _ hq), rfl, hS'⟩
end
end Mine
end

section
open PySem PySem.Spec PySem.Calls PySem.W PyProof.Rows PyProof.Rows.LCg PySem.SeqAt
set_option Elab.async false
set_option maxRecDepth 100000
set_option maxHeartbeats 2000000
set_option linter.unusedVariables false
namespace Mine
noncomputable abbrev cled0 (S dS N2 : Addr) (d : Sd) (oN : Obj) : List (Addr × Obj) := [(S, instObj 137 dS), (dS, sdict d N2 .none 0 0), (N2, oN)]
structure SAt0 (w : World) (S dS N2 : Addr) (oN : Obj) (l : List Nd) (ns : List Pn) : Prop where
  dict : oN.IsDictOf (PySem.intKind PySem.Challenge.rw_ny0334_01.prog w) (kvOf l)
  low : (N2 == sysModules) = false
  rp : Rp l ns
  nd : (keysN ns).Nodup
  ap : Ap [S, dS, N2] l
  len : ns.length ≤ 8
inductive SorterAt0 (w : World) (S : Addr) (ns : List Pn) (led : List (Addr × Obj)) : Prop
  | mk (dS N2 : Addr) (d : Sd) (oN : Obj) (l : List Nd) (e : led = cled0 S dS N2 d oN ++ nled l) (h : SAt0 w S dS N2 oN l ns) : SorterAt0 w S ns led
theorem allLt_ne {d x : Nat} {l : List (Addr × Obj)} (h : AllLt d l) (hx : d ≤ x) : ∀ p ∈ l, p.1 ≠ x := fun p hp => Nat.ne_of_lt (Nat.lt_of_lt_of_le (tb_ltOf h p hp) hx)
theorem kv_stored {l : List Nd} {k : Int} {v : Value} (h : k ∉ l.map (·.key)) : stored (kvOf l) k v = kvOf l ++ [(k, v)] := by
  unfold stored
  rw [if_neg]
  rw [List.any_eq_true]
  rintro ⟨x, hx, e⟩
  obtain ⟨n, hn, rfl⟩ := List.mem_map.mp hx
  exact h (by rw [← of_decide_eq_true e]; exact List.mem_map_of_mem hn)
noncomputable def GiPost (w : World) (S dS N2 : Addr) (d : Sd) (l : List Nd) (k : Int) (v : Value) (led : List (Addr × Obj)) : Prop :=
  ∃ nd oN', v = .ref nd.ia ∧ nd.key = k ∧ nd.np = 0 ∧ nd.vs = [] ∧ led = cled0 S dS N2 d oN' ++ nled (l ++ [nd]) ∧ oN'.IsDictOf (PySem.intKind PySem.Challenge.rw_ny0334_01.prog w) (kvOf (l ++ [nd])) ∧ Ap [S, dS, N2] (l ++ [nd])
theorem gi_end {w : World} {g h : Heap} {L S dS N2 ia da sa : Addr} {d : Sd} {oN' : Obj} {l : List Nd} {k : Int} {t tt : Tok} (hd' : oN'.IsDictOf (PySem.intKind PySem.Challenge.rw_ny0334_01.prog w) (stored (kvOf l) k (.ref ia)))
    (N : News g L h ((sa, W.listOf #[] 0) :: (ia, (⟨.ref 40, some da, .plain, #[some (.int k t), some (.int 0 tt), some (.ref sa)]⟩ : Obj)) :: (da, dictOf [] 0) :: (S, instObj 137 dS) :: (dS, sdict d N2 .none 0 0) :: (N2, oN') :: nled l)) (hnk : k ∉ l.map (·.key)) (hap : Ap [S, dS, N2] l)
    (h1 : AllLt da (nled l)) (hS : @LT.lt Nat _ S da) (hdS : @LT.lt Nat _ dS da) (hN : @LT.lt Nat _ N2 da) (h2 : @LT.lt Nat _ da ia) (h3 : @LT.lt Nat _ ia sa) : ∃ led, News g L h led ∧ GiPost w S dS N2 d l k (.ref ia) led := by
  refine ⟨cled0 S dS N2 d oN' ++ nled (l ++ [⟨k, t, ia, da, 0, tt, sa, [], 0⟩]), fun q hq => N q ?_, ⟨k, t, ia, da, 0, tt, sa, [], 0⟩, oN', rfl, rfl, rfl, rfl, rfl, ?_, ?_⟩
  · rcases List.mem_append.mp hq with hq | hq
    · simp only [List.mem_cons, List.not_mem_nil, or_false] at hq ⊢
      rcases hq with e | e | e <;> simp [e]
    · rw [nled, List.flatMap_append] at hq
      rcases List.mem_append.mp hq with hq | hq
      · exact .tail _ (.tail _ (.tail _ (.tail _ (.tail _ (.tail _ hq)))))
      · simp only [List.flatMap_cons, List.flatMap_nil, List.append_nil, Nd.led, List.mem_cons, List.not_mem_nil, or_false] at hq
        rcases hq with e | e | e
        · rw [e]; exact .tail _ (.head _)
        · rw [e]; exact .tail _ (.tail _ (.head _))
        · rw [e]; exact .head _
  · rw [kv_stored hnk] at hd'
    rw [show kvOf (l ++ [⟨k, t, ia, da, 0, tt, sa, [], 0⟩]) = kvOf l ++ [(k, .ref ia)] by simp [kvOf]]
    exact hd'
  · unfold Ap at hap ⊢
    have e : (nled (l ++ [⟨k, t, ia, da, 0, tt, sa, [], 0⟩])).map (·.1) = (nled l).map (·.1) ++ [ia, da, sa] := by simp [nled, Nd.led]
    rw [e, ← List.append_assoc, List.nodup_append]
    have lt : ∀ a ∈ [S, dS, N2] ++ (nled l).map (·.1), @LT.lt Nat _ a da := fun a ha => by
      rcases List.mem_append.mp ha with ha | ha
      · simp only [List.mem_cons, List.not_mem_nil, or_false] at ha
        rcases ha with rfl | rfl | rfl
        · exact hS
        · exact hdS
        · exact hN
      · obtain ⟨q, hq, rfl⟩ := List.mem_map.mp ha
        exact tb_ltOf h1 q hq
    have n1 : @Ne Nat ia da := by omega
    have n2 : @Ne Nat ia sa := by omega
    have n3 : @Ne Nat da sa := by omega
    refine ⟨hap, ?_, fun a ha b hb => ?_⟩
    · simp only [List.nodup_cons, List.mem_cons, List.not_mem_nil, or_false, not_or]
      exact ⟨⟨n1, n2⟩, n3, by simp, List.nodup_nil⟩
    · have := lt a ha
      simp only [List.mem_cons, List.not_mem_nil, or_false] at hb
      have hb' : @Eq Nat b ia ∨ @Eq Nat b da ∨ @Eq Nat b sa := hb
      have : @Ne Nat a b := by omega
      exact this
section
variable {w : World} {base : Heap} {p : Program} {loose : List Str} {mean : ExcName → Option Value} {mg mb : Str → Option Value}
theorem gi_old (X : (k0.heap_1 w.params).In base) (T : Top p loose mean mg mb base) (S dS N2 : Addr) (d : Sd) (oN : Obj) (la lb : List Nd) (nd : Nd) (t : Tok) (hd : oN.IsDictOf (PySem.intKind PySem.Challenge.rw_ny0334_01.prog w) (kvOf (la ++ nd :: lb))) (hlo : (N2 == sysModules) = false) (hnk : nd.key ∉ la.map (·.key)) :
    Con w base 80 [.ref S, .int nd.key t] 1 (cled0 S dS N2 d oN ++ nled (la ++ nd :: lb)) (fun v l => v = .ref nd.ia ∧ l = cled0 S dS N2 d oN ++ nled (la ++ nd :: lb)) (fun _ _ => False) := by
  k_with_none
  k_with "walk1" => first | (with_reducible refine Nx.next (by assumption) _ ?_; (try clear hN); (try clear Qc)) | (with_reducible refine Nx.ret (by assumption) ?_; (try clear hN); (try clear Qc)) | (with_reducible refine Nx.brk (by assumption) ?_; (try clear hN); (try clear Qc)) | (with_reducible refine Nx.cont (by assumption) ?_; (try clear hN); (try clear Qc))
  k_with "execs cons" => (refine execs_h fun Qc hN => ?_)
  k_with "call builtin:dict.get" => (k_here; (with_reducible show wpAny _ _ (call (Value.builtin _) [Value.ref _, Value.int _ _]) _ _ _); k_dflt (first | (refine' dget_some ?N ?m ?d ?lo ?v ?_; (case N => k_asm); (case m => k_mem); (case d => assumption); (case lo => assumption); (case v => assumption); k_whole) | (refine' dget_none ?N ?m ?d ?lo ?v ?_; (case N => k_asm); (case m => k_mem); (case d => assumption); (case lo => assumption); (case v => assumption); k_whole)))
  k_with "getMethod ref" => (k_here; (with_reducible show wpAny _ _ (getMethod (Value.ref _) (Str.ofString "get") _) _ _ _); k_dflt (refine' kdg_method (knd := PySem.intKind _ _) ?N ?m ?d ?_; (case N => k_asm); (case m => k_mem); (case d => assumption); k_whole))
  k_with "k_all" => (refine' allLt_ne ?h ?x; (case h => tbn_find); (case x => omega))
  k_with "k_all" => assumption
  k_with "k_room" => ((try simp only [depth_under_make, depth_under_kw, depth_in1, depth_deeper, depth_caller, Ar]); omega)
  k_with "setItem ref int" => (k_here; k_dflt (refine' kda_set (knd := PySem.intKind _ _) ?F ?N ?U ?d (intKind_is _ _ _ _) ?z ?_; (case F => k_asm); (case N => k_asm); (case U => k_updF); (case d => assumption); (case z => assumption)); intro h' o' F' N' hd'; (try dsimp only at N'); revert h' o' F' N' hd'; intro _ _ _ _ _)
  refine' Con.of (binds := [(Str.ofString "self", .ref S), (Str.ofString "node", .int nd.key t)]) X T ?ho ?hcd ?hb ?hl ?h ?c2 ?c3 ?c4 ?c5
  k_dflt ((case ho => k_is); (case hcd => k_is); (case hb => exact fun _ => BindsTo.of_eq rfl); (case hl => exact locs rfl); (case c2 => exact rfl); (case c3 => exact rfl); (case c4 => exact rfl); (case c5 => decide))
  intro dp envs gd un s g L h₁ tk hdp hun B Xg Tg F N hlt
  have hv := kv_at (l2 := lb) hnk
  simp only [List.cons_append, List.nil_append] at N
  try k_fold
  k_steps
  rename_i h9 F9 N9
  show BodyQ g L envs s _ (.ret (.ref nd.ia)) _
  exact ⟨g, _, _, h9, _, rfl, Slid.refl .., F9, N9, rfl, rfl⟩

theorem gi_new (X : (k0.heap_1 w.params).In base) (T : Top p loose mean mg mb base) (S dS N2 : Addr) (d : Sd) (oN : Obj) (l : List Nd) (k : Int) (t : Tok) (hd : oN.IsDictOf (PySem.intKind PySem.Challenge.rw_ny0334_01.prog w) (kvOf l)) (hlo : (N2 == sysModules) = false) (hnk : k ∉ l.map (·.key)) (hap : Ap [S, dS, N2] l) (hlen : l.length ≤ 8) :
    Con w base 80 [.ref S, .int k t] 4 (cled0 S dS N2 d oN ++ nled l) (GiPost w S dS N2 d l k) (fun _ _ => False) := by
  k_with_none
  k_with "walk1" => first | (with_reducible refine Nx.next (by assumption) _ ?_; (try clear hN); (try clear Qc)) | (with_reducible refine Nx.ret (by assumption) ?_; (try clear hN); (try clear Qc)) | (with_reducible refine Nx.brk (by assumption) ?_; (try clear hN); (try clear Qc)) | (with_reducible refine Nx.cont (by assumption) ?_; (try clear hN); (try clear Qc))
  k_with "execs cons" => (refine execs_h fun Qc hN => ?_)
  k_with "call builtin:dict.get" => (k_here; (with_reducible show wpAny _ _ (call (Value.builtin _) [Value.ref _, Value.int _ _]) _ _ _); k_dflt (first | (refine' dget_some ?N ?m ?d ?lo ?v ?_; (case N => k_asm); (case m => k_mem); (case d => assumption); (case lo => assumption); (case v => assumption); k_whole) | (refine' dget_none ?N ?m ?d ?lo ?v ?_; (case N => k_asm); (case m => k_mem); (case d => assumption); (case lo => assumption); (case v => assumption); k_whole)))
  k_with "getMethod ref" => (k_here; (with_reducible show wpAny _ _ (getMethod (Value.ref _) (Str.ofString "get") _) _ _ _); k_dflt (refine' kdg_method (knd := PySem.intKind _ _) ?N ?m ?d ?_; (case N => k_asm); (case m => k_mem); (case d => assumption); k_whole))
  k_with "k_all" => (refine' allLt_ne ?h ?x; (case h => tbn_find); (case x => omega))
  k_with "k_all" => assumption
  k_with "k_room" => ((try simp only [depth_under_make, depth_under_kw, depth_in1, depth_deeper, depth_caller, Ar]); omega)
  k_with "setItem ref int" => (k_here; k_dflt (refine' kda_set (knd := PySem.intKind _ _) ?F ?N ?U ?d (intKind_is _ _ _ _) ?z ?_; (case F => k_asm); (case N => k_asm); (case U => k_updF); (case d => assumption); (case z => assumption)); intro h' o' F' N' hd'; (try dsimp only at N'); revert h' o' F' N' hd'; intro _ _ _ _ _)
  refine' Con.of (binds := [(Str.ofString "self", .ref S), (Str.ofString "node", .int k t)]) X T ?ho ?hcd ?hb ?hl ?h ?c2 ?c3 ?c4 ?c5
  k_dflt ((case ho => k_is); (case hcd => k_is); (case hb => exact fun _ => BindsTo.of_eq rfl); (case hl => exact locs rfl); (case c2 => exact rfl); (case c3 => exact rfl); (case c4 => exact rfl); (case c5 => decide))
  intro dp envs gd un s g L h₁ tk hdp hun B Xg Tg F N hlt
  have hv := kv_none hnk
  simp only [List.cons_append, List.nil_append] at N
  have hz : (kvOf l).length ≤ sizeLine := by rw [kvOf, List.length_map]; exact Nat.le_trans hlen (by decide)
  have hap' := hap
  unfold Ap at hap'
  simp only [List.cons_append, List.nil_append, List.nodup_cons, List.mem_cons, not_or, List.mem_map, not_exists, not_and] at hap'
  obtain ⟨⟨d4, d5, d6⟩, ⟨e5, e6⟩, ⟨f6, _⟩⟩ := hap'
  have d5' : @Ne Nat S N2 := d5
  have e5' : @Ne Nat dS N2 := e5
  try k_fold
  k_steps
  rename_i hd9 h9 F9 N9
  obtain ⟨led, N10, post⟩ := gi_end hd9 N9 hnk hap (by tbn_find) (by omega) (by omega) (by omega) (by omega) (by omega)
  show BodyQ g L envs s _ (.ret _) _
  exact ⟨g, _, led, h9, _, rfl, Slid.refl .., F9, N10, post⟩
end
end Mine
end

section
open PySem PySem.Spec PySem.Calls PySem.W PyProof.Rows PyProof.Rows.LCg PySem.SeqAt
set_option Elab.async false
set_option maxRecDepth 100000
set_option maxHeartbeats 2000000
set_option linter.unusedVariables false
namespace Mine
theorem Con.mono {w : World} {base : Heap} {f : Addr} {vs : List Value} {d d' : Nat} {pre : List (Addr × Obj)} {post post' rs rs' : Value → List (Addr × Obj) → Prop} (C : Con w base f vs d pre post rs) (hd : d ≤ d') (hp : ∀ v l, post v l → post' v l) (hr : ∀ v l, rs v l → rs' v l) : Con w base f vs d' pre post' rs' := by
  intro dp envs gd un s Q E hdp hun hb hff he hpf hQ hE
  exact C dp envs gd un s Q E (by omega) (by omega) hb hff he hpf (fun v led h' tk' h => hQ v led h' tk' (hp v led h)) (fun v led h' tk' h => hE v led h' tk' (hr v led h))
noncomputable def giNs (ns : List Pn) (k : Int) : List Pn := if k ∈ keysN ns then ns else ns ++ [(k, 0, [])]
noncomputable def addSu (j k : Int) (ns : List Pn) : List Pn := ns.map fun q => if q.1 = j then (q.1, q.2.1, q.2.2 ++ [k]) else q
noncomputable def addPs (ns : List Pn) (k : Int) (ms : List Int) : List Pn :=
  ms.foldl (fun a j => addSu j k (giNs a j)) (setNp k (npOf (giNs ns k) k + ms.length) (giNs ns k))
theorem Rp.snoc : ∀ {l : List Nd} {ns : List Pn} {nd : Nd} {q : Pn}, Rp l ns → nd.key = q.1 → nd.np = q.2.1 → IntsAre nd.vs q.2.2 → Rp (l ++ [nd]) (ns ++ [q])
  | _, _, _, _, .nil, h1, h2, h3 => .cons h1 h2 h3 .nil
  | _, _, _, _, .cons a b c r, h1, h2, h3 => .cons a b c (r.snoc h1 h2 h3)
theorem keysN_add (j k : Int) (ns : List Pn) : keysN (addSu j k ns) = keysN ns := by
  unfold keysN addSu
  rw [List.map_map]
  refine List.map_congr_left fun q _ => ?_
  show (if q.1 = j then (q.1, q.2.1, q.2.2 ++ [k]) else q).1 = q.1
  split <;> rfl
theorem Rp.sameS : ∀ {l : List Nd} {ns : List Pn} {j k : Int}, Rp l ns → j ∉ l.map (·.key) → Rp l (addSu j k ns)
  | _, _, _, _, .nil, _ => .nil
  | _, _, j, k, .cons (q := q) h1 h2 h3 r, h => by
    simp only [List.map_cons, List.mem_cons, not_or] at h
    show Rp _ ((if q.1 = j then (q.1, q.2.1, q.2.2 ++ [k]) else q) :: addSu j k _)
    rw [if_neg (by rw [← h1]; exact fun e => h.1 e.symm)]
    exact .cons h1 h2 h3 (r.sameS h.2)
theorem Rp.addS {k : Int} {t : Tok} {c : Nat} : ∀ {l1 l2 : List Nd} {n : Nd} {ns : List Pn}, Rp (l1 ++ n :: l2) ns → ((l1 ++ n :: l2).map (·.key)).Nodup → Rp (l1 ++ { n with vs := n.vs ++ [.int k t], ct := c } :: l2) (addSu n.key k ns)
  | [], l2, n, _, .cons (q := q) h1 h2 h3 r, hn => by
    show Rp _ ((if q.1 = n.key then (q.1, q.2.1, q.2.2 ++ [k]) else q) :: addSu n.key k _)
    rw [if_pos h1.symm]
    refine .cons h1 h2 (IntsAre.app h3 (.cons _ _ .nil)) (r.sameS ?_)
    exact (List.nodup_cons.mp hn).1
  | a :: l1, l2, n, _, .cons (q := q) h1 h2 h3 r, hn => by
    show Rp _ ((if q.1 = n.key then (q.1, q.2.1, q.2.2 ++ [k]) else q) :: addSu n.key k _)
    have hn' := List.nodup_cons.mp (by simpa using hn : (a.key :: ((l1 ++ n :: l2).map (·.key))).Nodup)
    have : a.key ≠ n.key := fun e => hn'.1 (by rw [e]; simp)
    rw [if_neg (by rw [← h1]; exact this)]
    exact .cons h1 h2 h3 (r.addS hn'.2)
theorem giNs_nodup {ns : List Pn} {k : Int} (h : (keysN ns).Nodup) : (keysN (giNs ns k)).Nodup := by
  unfold giNs
  split
  · exact h
  · rename_i hk
    have e : keysN (ns ++ [(k, 0, [])]) = keysN ns ++ [k] := by simp [keysN]
    rw [e, List.nodup_append]
    refine ⟨h, by simp, fun a ha b hb => ?_⟩
    rw [List.mem_singleton.mp hb]
    exact fun e => hk (e ▸ ha)
theorem giNs_len (ns : List Pn) (k : Int) : (giNs ns k).length ≤ ns.length + 1 := by
  unfold giNs; split <;> simp
theorem kv_vs {l1 l2 : List Nd} {n : Nd} {vs : List Value} {c : Nat} : kvOf (l1 ++ { n with vs := vs, ct := c } :: l2) = kvOf (l1 ++ n :: l2) := by simp [kvOf]
theorem ad_vs {l1 l2 : List Nd} {n : Nd} {vs : List Value} {c : Nat} : (nled (l1 ++ { n with vs := vs, ct := c } :: l2)).map (·.1) = (nled (l1 ++ n :: l2)).map (·.1) := by simp [nled, Nd.led]
noncomputable def GiP (w : World) (S dS N2 : Addr) (d : Sd) (ns : List Pn) (k : Int) (v : Value) (led : List (Addr × Obj)) : Prop :=
  ∃ oN' la nd lb, v = .ref nd.ia ∧ nd.key = k ∧ k ∉ la.map (·.key) ∧ led = cled0 S dS N2 d oN' ++ nled (la ++ nd :: lb) ∧ SAt0 w S dS N2 oN' (la ++ nd :: lb) (giNs ns k)
theorem Rp.length {l : List Nd} {ns : List Pn} (h : Rp l ns) : l.length = ns.length := by
  have := congrArg List.length h.keys
  simpa [keysN] using this
theorem gi_con {w : World} {base : Heap} {p : Program} {loose : List Str} {mean : ExcName → Option Value} {mg mb : Str → Option Value} (X : (k0.heap_1 w.params).In base) (T : Top p loose mean mg mb base) {S dS N2 : Addr} (d : Sd) {oN : Obj} {l : List Nd} {ns : List Pn} (k : Int) (t : Tok) (hS : SAt0 w S dS N2 oN l ns) (hlen : ns.length ≤ 7) :
    Con w base 80 [.ref S, .int k t] 4 (cled0 S dS N2 d oN ++ nled l) (GiP w S dS N2 d ns k) (fun _ _ => False) := by
  by_cases hk : k ∈ keysN ns
  · have hkk : k ∈ l.map (·.key) := by rw [hS.rp.keys]; exact hk
    obtain ⟨la, nd, lb, rfl, rfl, hnk⟩ := nd_split hkk
    refine (gi_old X T S dS N2 d oN la lb nd t hS.dict hS.low hnk).mono (by omega) ?_ (fun _ _ h => h)
    rintro v led ⟨rfl, rfl⟩
    exact ⟨oN, la, nd, lb, rfl, rfl, hnk, rfl, by unfold giNs; rw [if_pos hk]; exact hS⟩
  · have hkk : k ∉ l.map (·.key) := by rw [hS.rp.keys]; exact hk
    refine (gi_new X T S dS N2 d oN l k t hS.dict hS.low hkk hS.ap (by rw [hS.rp.length]; omega)).mono (Nat.le_refl _) ?_ (fun _ _ h => h)
    rintro v led ⟨nd, oN', rfl, h1, h2, h3, rfl, h4, h5⟩
    refine ⟨oN', l, nd, [], rfl, h1, hkk, rfl, ⟨h4, hS.low, ?_, giNs_nodup hS.nd, h5, Nat.le_trans (giNs_len ns k) (by omega)⟩⟩
    unfold giNs; rw [if_neg hk]
    exact hS.rp.snoc h1 h2 (by rw [h3]; exact .nil)
end Mine
end

section
open PySem PySem.Spec PySem.Calls PySem.W PyProof.Rows PyProof.Rows.LCg PySem.SeqAt
set_option Elab.async false
set_option maxRecDepth 100000
set_option maxHeartbeats 2000000
set_option linter.unusedVariables false
namespace Mine
theorem su_gi {ns : List Pn} {b : Nat} (k : Int) (h : ∀ q ∈ ns, q.2.2.length ≤ b) : ∀ q ∈ giNs ns k, q.2.2.length ≤ b := by
  unfold giNs
  split
  · exact h
  · intro q hq
    rcases List.mem_append.mp hq with hq | hq
    · exact h q hq
    · rw [List.mem_singleton.mp hq]; exact Nat.zero_le _
theorem su_add {ns : List Pn} {b : Nat} (j k : Int) (h : ∀ q ∈ ns, q.2.2.length ≤ b) : ∀ q ∈ addSu j k ns, q.2.2.length ≤ b + 1 := by
  intro q hq
  refine hideG fun G0 k0 => ?_; obtain ⟨x, hx, rfl⟩ := List.mem_map.mp hq; refine k0 ?_; clear k0 G0
  have := h x hx
  split
  · simp only [List.length_append, List.length_singleton]; omega
  · omega
theorem su_set {ns : List Pn} {b : Nat} (k v : Int) (h : ∀ q ∈ ns, q.2.2.length ≤ b) : ∀ q ∈ setNp k v ns, q.2.2.length ≤ b := by
  intro q hq
  refine hideG fun G0 k0 => ?_; obtain ⟨x, hx, rfl⟩ := List.mem_map.mp hq; refine k0 ?_; clear k0 G0
  have := h x hx
  split
  · exact this
  · exact this
theorem su_fold (k : Int) : ∀ (ms : List Int) {ns : List Pn} {b : Nat}, (∀ q ∈ ns, q.2.2.length ≤ b) → ∀ q ∈ ms.foldl (fun a j => addSu j k (giNs a j)) ns, q.2.2.length ≤ b + ms.length
  | [], ns, b, h => h
  | j :: ms, ns, b, h => by
    have := su_fold k ms (su_add j k (su_gi j h))
    intro q hq
    have := this q hq
    simp only [List.length_cons]; omega
theorem su_addPs {ns : List Pn} {b : Nat} (k : Int) (ms : List Int) (h : ∀ q ∈ ns, q.2.2.length ≤ b) : ∀ q ∈ addPs ns k ms, q.2.2.length ≤ b + ms.length := su_fold k ms (su_set _ _ (su_gi k h))
theorem len_set (k v : Int) (ns : List Pn) : (setNp k v ns).length = ns.length := by simp [setNp]
theorem len_addSu (j k : Int) (ns : List Pn) : (addSu j k ns).length = ns.length := by simp [addSu]
theorem Rp.vlen {l : List Nd} {ns : List Pn} {b : Nat} (hr : Rp l ns) (h : ∀ q ∈ ns, q.2.2.length ≤ b) : ∀ n ∈ l, n.vs.length ≤ b := by
  induction hr with
  | nil => intro n hn; cases hn
  | cons h1 h2 h3 r ih =>
    intro n hn
    rcases List.mem_cons.mp hn with rfl | hn
    · rw [h3.length]; exact h _ (.head _)
    · exact ih (fun x hx => h x (.tail _ hx)) n hn
inductive AddM (D S : Addr) (k : Int) (t : Tok) (m' : Str → Option Value) : Prop
  | mk (o1 o2 o3 : Option Value) (e : m' = fun y => if y = Str.ofString "pred_info" then o3 else if y = Str.ofString "pred" then o2 else if y = Str.ofString "nodeinfo" then o1 else if y = Str.ofString "predecessors" then some (.ref D) else if y = Str.ofString "node" then some (.int k t) else if y = Str.ofString "self" then some (.ref S) else none) : AddM D S k t m'
inductive AddJ (w : World) (k : Int) (t : Tok) (ms : List Int) (ps : List Value) (ns0 : List Pn) (b : Nat) (D S dS N2 : Addr) (d : Sd) (i : Nat) (m' : Str → Option Value) (led : List (Addr × Obj)) : Prop
  | mk (hm : AddM D S k t m') (oN2 : Obj) (l2 : List Nd) (e : led = (D, tupOf ps.toArray 0) :: (cled0 S dS N2 d oN2 ++ nled l2)) (ap : ∀ q ∈ cled0 S dS N2 d oN2 ++ nled l2, q.1 ≠ D) (hS : SAt0 w S dS N2 oN2 l2 ((ms.take i).foldl (fun a j => addSu j k (giNs a j)) ns0)) (hl : ((ms.take i).foldl (fun a j => addSu j k (giNs a j)) ns0).length ≤ b + i) : AddJ w k t ms ps ns0 b D S dS N2 d i m' led
section
variable {w : World} {base : Heap} {p : Program} {loose : List Str} {mean : ExcName → Option Value} {mg mb : Str → Option Value}
theorem add_con (X : (k0.heap_1 w.params).In base) (T : Top p loose mean mg mb base) (S : Addr) (k : Int) (t : Tok) (ps : List Value) (ms : List Int) (hps : IntsAre ps ms) (ns : List Pn) (led : List (Addr × Obj)) (hS : SorterAt0 w S ns led) (hlen : ns.length + ms.length ≤ 7) (hm3 : ms.length ≤ 3) (b : Nat) (hsl : ∀ q ∈ ns, q.2.2.length ≤ b) (hb : b ≤ 50) :
    Con w base 87 (.ref S :: .int k t :: ps) 6 led (fun v l => v = .none ∧ SorterAt0 w S (addPs ns k ms) l) (fun _ _ => False) := by
  k_with_none
  k_with "walk1" => first | (with_reducible refine Nx.next (by assumption) _ ?_; (try clear hN); (try clear Qc)) | (with_reducible refine Nx.ret (by assumption) ?_; (try clear hN); (try clear Qc)) | (with_reducible refine Nx.brk (by assumption) ?_; (try clear hN); (try clear Qc)) | (with_reducible refine Nx.cont (by assumption) ?_; (try clear hN); (try clear Qc))
  k_with "execs cons" => (refine execs_h fun Qc hN => ?_)
  k_with "call ref" => refine here ?_
  k_with "call builtin:len" => refine here ?_
  k_with "exec For Name Name cons nil" => refine here ?_
  k_with "k_all" => assumption
  k_with "k_ne" => first | assumption | (refine Ne.symm ?_; assumption)
  refine hideG fun G0 k0 => ?_; obtain ⟨dS, N2, d, oN, l, rfl, hS⟩ := hS; refine k0 ?_; clear k0 G0
  refine' Con.ofS (binds := fun D => [(Str.ofString "self", .ref S), (Str.ofString "node", .int k t), (Str.ofString "predecessors", .ref D)]) (ot := tupOf ps.toArray 0) X T ?ho ?hcd ?hf ?hb ?hl ?hn ?h ?c2 ?c3 ?c4
  k_dflt ((case ho => k_is); (case hcd => k_is); (case hf => exact rfl); (case hl => exact fun _ => rfl); (case hn => decide +kernel); (case c2 => exact rfl); (case c3 => exact rfl); (case c4 => exact rfl))
  case hb =>
    have e := hps.length
    rcases ps with _ | ⟨a, _ | ⟨b, _ | ⟨c, _ | ⟨x, r⟩⟩⟩⟩
    · exact ⟨_, rfl, fun _ => rfl⟩
    · exact ⟨_, rfl, fun _ => rfl⟩
    · exact ⟨_, rfl, fun _ => rfl⟩
    · exact ⟨_, rfl, fun _ => rfl⟩
    · simp only [List.length_cons] at e; omega
  intro dp envs gd un s g L h₁ tk cells D hdp hun B Xg Tg F N Y hlt hDL
  have Y' : CellsAre _ ([] : List (Str × Addr)) cells := Y
  cases Y'
  clear Y
  replace F := fr_cong (m' := fun y => if y = Str.ofString "predecessors" then some (.ref D) else if y = Str.ofString "node" then some (.int k t) else if y = Str.ofString "self" then some (.ref S) else none) F (fun y => by simp only [bindL]; rfl)
  have N0 : News g L h₁ ((D, tupOf ps.toArray 0) :: (cled0 S dS N2 d oN ++ nled l)) := N
  simp only [List.cons_append, List.nil_append] at N
  refine hide1 fun Q1 hQ1 => ?_
  try k_fold
  k_steps
  refine here (Con.use (env := envOfC (Str.ofString "TopologicalSorter.add") _ L 87 (.ref 86)) (rest := [(D, tupOf ps.toArray 0)]) (gi_con X T d k t hS (by omega)) B F N0 rfl rfl (dp_le (a := 5) hdp (by decide)) (un_le (a := 403) hun (by decide)) (fun q hq => .tail _ hq) (fun q hq => by rw [List.mem_singleton.mp hq]; exact ⟨.head _, fun hm => by obtain ⟨x, hx, e⟩ := List.mem_map.mp hm; exact Nat.ne_of_lt (hlt x hx) e⟩) ?_ (fun _ _ _ _ _ h => h.elim))
  intro v led1 g1 h1 tk1 hP1 S1 B1 F1 N1 ap1; refine hideG fun G0 k0 => ?_; obtain ⟨oN1, la, nd, lb, rfl, rfl, hnk, rfl, hS1⟩ := hP1; refine k0 ?_; clear k0 G0
  clear N N0 F Xg Tg
  have Xg := X.keeps B1.stays
  have Tg := T.keeps B1.stays
  have hD1 : ∀ q ∈ cled0 S dS N2 d oN1 ++ nled (la ++ nd :: lb), q.1 ≠ D := fun q hq => ap1 q hq _ (.head _)
  have N2' := nled_mem_of (C := (D, tupOf ps.toArray 0) :: cled0 S dS N2 d oN1) (l1 := la) (n := nd) (l2 := lb) (news_sub N1 fun q hq => by
    revert q; refine all_cons (List.mem_append_right _ (.head _)) ?_; intro q hq; exact List.mem_append_left _ hq)
  have hfr := hS1.ap.front
  simp only [List.cons_append, List.nil_append, List.nodup_cons, List.mem_cons, not_or, List.mem_map, not_exists, not_and] at hfr
  refine hideG fun G0 k0 => ?_; obtain ⟨⟨a1, a2, a3, a4, a5, a7⟩, _⟩ := hfr; refine k0 ?_; clear k0 G0
  have i1 : nd.ia ≠ D := hD1 _ (List.mem_append_right _ (mem_nled.mpr (.inl (.head _))))
  simp only [List.cons_append, List.nil_append] at N2'
  k_steps
  rename_i h3 F3 N3
  have hpl : ps.length ≤ 3 := by rw [hps.length]; exact hm3
  refine here (PyProof.Rows.len_tuple ⟨_, (N3 _ (.tail _ (.tail _ (.tail _ (.head _))))).1, rfl, _, rfl⟩ (by rw [List.size_toArray]; omega) ?_)
  k_steps
  rename_i h4 F4 N4
  obtain ⟨tt, N5⟩ := node_back (C := (D, tupOf ps.toArray 0) :: cled0 S dS N2 d oN1) N4
  clear N4
  refine for_E ?_ (fun _ => rfl)
  k_steps
  refine for_L (L := L) (source_tuple (by rfl) F4 N5 (.head _)) (fun q hq => by rw [List.mem_singleton.mp hq]; exact .head _)
    (AddJ w nd.key t ms ps (setNp nd.key (npOf (giNs ns nd.key) nd.key + ms.length) (giNs ns nd.key)) (ns.length + 1) D S dS N2 d) ?_ B1 ?_ ?_ ?_ rfl rfl rfl
  · intro i m' led hP1 q hq; refine hideG fun G0 k0 => ?_; obtain ⟨_, oN2, l2, rfl, _⟩ := hP1; refine k0 ?_; clear k0 G0
    rw [List.mem_singleton.mp hq]; exact .head _
  · have hkn : ((la ++ nd :: lb).map (·.key)).Nodup := by rw [hS1.rp.keys]; exact hS1.nd
    have hsz : ps.toArray.size = ms.length := by rw [List.size_toArray, hps.length]
    refine ⟨⟨some (.ref nd.ia), none, none, funext fun y => ?_⟩, oN1, _, rfl, off_map hD1 ?_, ?_, ?_⟩
    · by_cases e1 : y = Str.ofString "nodeinfo"
      · subst e1; rfl
      by_cases e2 : y = Str.ofString "pred"
      · subst e2; rfl
      by_cases e3 : y = Str.ofString "pred_info"
      · subst e3; rfl
      simp [e1, e2, e3]
    · show S :: dS :: N2 :: (nled (la ++ { nd with np := nd.np + ps.toArray.size, nt := tt } :: lb)).map (·.1) = S :: dS :: N2 :: (nled (la ++ nd :: lb)).map (·.1)
      rw [nled_addrs_set]
    · have hsp := (hS1.rp.split hnk).1
      rw [List.take_zero, List.foldl_nil, hsp, ← hsz]
      refine ⟨by rw [kv_set]; exact hS1.dict, hS1.low, hS1.rp.set hkn, by rw [keysN_set]; exact hS1.nd, ?_, by rw [len_set]; exact hS1.len⟩
      have := hS1.ap
      unfold Ap at this ⊢
      rw [nled_addrs_set]; exact this
    · rw [List.take_zero, List.foldl_nil, len_set]; exact giNs_len ns nd.key
  · intro I i v g' m' led o h tk' hi hP hP1 Sl B' F' N' hI; refine hideG fun G0 k0 => ?_; obtain ⟨⟨o1, o2, o3, rfl⟩, oN2, l2, rfl, hoff, hS2, hln⟩ := hP1; refine k0 ?_; clear k0 G0
    refine hideG fun G0 k0 => ?_; obtain ⟨tj, j, rfl, hki⟩ := ints_at' hps (by simpa using hP); refine k0 ?_; clear k0 G0
    have hi3 : i < ms.length := by have := hps.length; rw [List.size_toArray] at hi; omega
    clear F4 N5 Xg Tg
    have Xg := X.keeps B'.stays
    have Tg := T.keeps B'.stays
    have N6 : News g' L h ((I, o) :: (D, tupOf ps.toArray 0) :: (cled0 S dS N2 d oN2 ++ nled l2)) := N'
    simp only [List.cons_append, List.nil_append] at N'
    refine hide1 fun Q2 hQ2 => ?_
    try k_fold
    k_steps
    refine here (Con.use (env := envOfC (Str.ofString "TopologicalSorter.add") _ L 87 (.ref 86)) (rest := [(I, o), (D, tupOf ps.toArray 0)]) (gi_con X T d j tj hS2 (by omega)) B' F' N6 rfl rfl (dp_le (a := 5) hdp (by decide)) (un_le (a := 403) hun (by decide)) (fun q hq => .tail _ (.tail _ hq)) ?_ ?_ (fun _ _ _ _ _ h => h.elim))
    · intro q hq
      simp only [List.mem_cons, List.not_mem_nil, or_false] at hq
      rcases hq with rfl | rfl
      · exact ⟨.head _, fun hm => by obtain ⟨x, hx, e⟩ := List.mem_map.mp hm; exact hI x (.tail _ hx) e⟩
      · exact ⟨.tail _ (.head _), fun hm => by obtain ⟨x, hx, e⟩ := List.mem_map.mp hm; exact hoff x hx e⟩
    · intro v led3 g3 h3 tk3 hP1 S3 B3 F3 N3 ap3; refine hideG fun G0 k0 => ?_; obtain ⟨oN3, lc, sd, ld, rfl, rfl, hnk3, rfl, hS3⟩ := hP1; refine k0 ?_; clear k0 G0
      clear N' N6 F' Xg Tg
      have Xg := X.keeps B3.stays
      have Tg := T.keeps B3.stays
      have hD3 : ∀ q ∈ cled0 S dS N2 d oN3 ++ nled (lc ++ sd :: ld), q.1 ≠ D := fun q hq => ap3 q hq _ (.tail _ (.head _))
      have hI3 : ∀ q ∈ cled0 S dS N2 d oN3 ++ nled (lc ++ sd :: ld), q.1 ≠ I := fun q hq => ap3 q hq _ (.head _)
      have N7 := nled_mem_of (C := (I, o) :: (D, tupOf ps.toArray 0) :: cled0 S dS N2 d oN3) (l1 := lc) (n := sd) (l2 := ld) (news_sub N3 fun q hq => by
        revert q; refine all_cons (List.mem_append_right _ (.head _)) ?_; refine all_cons (List.mem_append_right _ (.tail _ (.head _))) ?_; intro q hq; exact List.mem_append_left _ hq)
      have hfr := hS3.ap.front
      simp only [List.cons_append, List.nil_append, List.nodup_cons, List.mem_cons, not_or, List.mem_map, not_exists, not_and] at hfr
      refine hideG fun G0 k0 => ?_; obtain ⟨⟨_, b2, _⟩, ⟨c2, _⟩, ⟨e3, e4, e5, e7⟩, _⟩ := hfr; refine k0 ?_; clear k0 G0
      have i1 : sd.sa ≠ D := hD3 _ (List.mem_append_right _ (mem_nled.mpr (.inl (.tail _ (.tail _ (.head _))))))
      have i2 : sd.sa ≠ I := hI3 _ (List.mem_append_right _ (mem_nled.mpr (.inl (.tail _ (.tail _ (.head _))))))
      clear N3
      have hvl : sd.vs.length ≤ 60 := by
        have h1 := su_gi sd.key (su_fold nd.key (ms.take i) (su_set nd.key (npOf (giNs ns nd.key) nd.key + ms.length) (su_gi nd.key hsl)))
        have h2 := hS3.rp.vlen h1 sd (by simp)
        have h3 : (ms.take i).length ≤ 3 := by rw [List.length_take]; omega
        omega
      simp only [List.cons_append, List.nil_append] at N7
      k_steps
      rename_i h9 F9 N9
      rw [List.push_toArray] at N9
      have N10 := nled_mem_to (n := { sd with vs := sd.vs ++ [.int nd.key t], ct := sd.ct + 1 }) (C := (I, o) :: (D, tupOf ps.toArray 0) :: cled0 S dS N2 d oN3) N9
      have hkn : ((lc ++ sd :: ld).map (·.key)).Nodup := by rw [hS3.rp.keys]; exact hS3.nd
      refine hQ2 _ _ ?_
      show Goes envs g' L _ _ _
      refine ⟨g3, _, _, h9, _, rfl, S3, F9, N10, _, rfl, ⟨⟨o1, some (.int sd.key tj), some (.ref sd.ia), funext fun y => ?_⟩, oN3, _, rfl, off_map hD3 ?_, ?_, ?_⟩, off_map (l := (D, tupOf ps.toArray 0) :: (cled0 S dS N2 d oN3 ++ nled (lc ++ sd :: ld))) ?_ ?_⟩
      · by_cases e1 : y = Str.ofString "pred_info"
        · subst e1; rfl
        by_cases e2 : y = Str.ofString "pred"
        · subst e2; rfl
        simp [e1, e2]
      · show S :: dS :: N2 :: (nled (lc ++ { sd with vs := sd.vs ++ [.int nd.key t], ct := sd.ct + 1 } :: ld)).map (·.1) = S :: dS :: N2 :: (nled (lc ++ sd :: ld)).map (·.1)
        rw [ad_vs]
      · rw [foldl_take_succ _ _ _ hki]
        refine ⟨by rw [kv_vs]; exact hS3.dict, hS3.low, hS3.rp.addS hkn, by rw [keysN_add]; exact hS3.nd, ?_, by rw [len_addSu]; exact hS3.len⟩
        have := hS3.ap
        unfold Ap at this ⊢
        rw [ad_vs]; exact this
      · rw [foldl_take_succ _ _ _ hki, len_addSu]
        exact Nat.le_trans (giNs_len _ _) (by omega)
      · intro q hq
        revert q; refine all_cons (hI _ (.head _)) ?_; intro q hq; exact hI3 q hq
      · show D :: S :: dS :: N2 :: (nled (lc ++ { sd with vs := sd.vs ++ [.int nd.key t], ct := sd.ct + 1 } :: ld)).map (·.1) = D :: S :: dS :: N2 :: (nled (lc ++ sd :: ld)).map (·.1)
        rw [ad_vs]
  · intro g' m' led h tk' hP1 Sl B' F' N'; refine hideG fun G0 k0 => ?_; obtain ⟨⟨o1, o2, o3, rfl⟩, oN2, l2, rfl, hoff, hS2, hln⟩ := hP1; refine k0 ?_; clear k0 G0
    dsimp only
    k_steps
    refine hQ1 _ _ ?_
    show BodyQ g L envs s _ .next _
    have hsz : ps.toArray.size = ms.length := by rw [List.size_toArray, hps.length]
    rw [hsz, List.take_length] at hS2
    exact ⟨g', _, _, h, _, rfl, S1.trans Sl, F', news_sub N' (fun q hq => .tail _ hq), rfl, dS, N2, d, oN2, l2, rfl, hS2⟩
end
end Mine
end

section
open PySem PySem.Spec PySem.Calls PySem.W PyProof.Rows PyProof.Rows.LCg PySem.SeqAt
set_option Elab.async false
set_option maxRecDepth 100000
set_option maxHeartbeats 8000000
set_option linter.unusedVariables false
namespace Mine
theorem keepFN {g h h' : Heap} {L : Addr} {m : Str → Option Value} {wr : List Addr} {l : List (Addr × Obj)} (kp : ∀ b o, b ∉ wr → h.get? b = some o → h'.get? b = some o) (F : Fr g L h m) (N : News g L h l) (hL : L ∉ wr) (hg : ∀ b ∈ wr, g.get? b = none) (ho : ∀ q ∈ l, q.1 ∉ wr) : Fr g L h' m ∧ News g L h' l := by
  refine hideG fun G0 k0 => ?_; obtain ⟨oL, es, ep, hLo, hLr⟩ := id F.ns; refine k0 ?_; clear k0 G0
  exact ⟨⟨⟨oL, es, ep, kp L oL hL hLo, hLr⟩, fun b ob e => kp b ob (fun hm => by rw [hg b hm] at e; cases e) (F.keep b ob e), F.above⟩, fun q hq => ⟨kp _ _ (ho q hq) (N q hq).1, (N q hq).2⟩⟩

section
variable {w : World} {A A₀ : Around} {base g : Heap} {outer : List Env} {L : Addr} {m : Str → Option Value} {s : Shared} {news : List (Addr × Obj)} {env : Env} {a b : Str} {pa pb tp : Pos} {kk : Nat} {elt iter target : PySem.Expr} {scope : Scope} {cl : List (Str × Addr)} {pos : Pos} {E : Value → Shared → Prop} {Q : Value → Shared → Prop}

noncomputable def SrcT (w : World) (A : Around) (E : Value → Shared → Prop) (elt target iter : PySem.Expr) (scope : Scope) (pos : Pos) (cl : List (Str × Addr)) (env : Env) (PostC : Value → Addr → Result → Shared → Prop) (xv : Value) (s₁ : Shared) : Prop :=
  wpAny (MG w) A (pyIter xv) (fun it s₂ => wpAny (MG w) A (newList []) (fun acc s₃ => wpAny (MG w) A (newFunctionEnv scope env.globals cl [] env.qual none .none (some env)) (fun cenv s₄ =>
      codeAny (MG w) A (.compStart (.ListComp elt [⟨target, iter, [], 0⟩] scope pos) 0 it acc { cenv with scope := relabel scope env }) (PostC acc cenv.locals) s₄) E s₃) E s₂) E s₁
theorem ListComp_T (hclos : closureFor scope env = pure cl) (hkind : scope.kind = .function)
    (hnames : ∀ y ∈ scope.names, y.2 = .local → scope.names.lookup y.1 = some .local)
    (h : wpAny (MG w) A (eval iter env) (SrcT w A E elt target iter scope pos cl env (compPost (MG w) A E none Q)) E s)
    (hs : ∀ x, foldedSetIterable iter env x = pure x) :
    wpAny (MG w) A (eval (.ListComp elt [⟨target, iter, [], 0⟩] scope pos) env) Q E s := by
  rw [eval_ListComp]
  exact wpAny_comprehension_free (use := none) rfl hs hclos hkind hnames h

theorem enum_pure (R : Nat → Value → Prop) {l : Addr} {its : Array Value} {k : Nat} (hh : A.handled = none) (F : Fr g L s.heap m) (N : News g L s.heap news) (hm : (l, W.listOf its k) ∈ news) (hn : its.size ≤ sizeLine)
    (h : ∀ e it C D (i : Nat) x t ys oe oi oC (m₂ : Str → Option Value) h tk, its[i]? = some x → Fr g L h m → NsObj oC m₂ → m₂ a = some (.int i t) → m₂ b = some x → News g L h ((e, oe) :: (it, oi) :: (C, oC) :: (D, lst ys) :: news) →
      wpAny (MG w) A (eval elt (compEnvC scope cl C env)) (fun y s₃ => R i y ∧ ∃ h' tk', s₃ = { s with heap := h', toks := tk' } ∧ Fr g L h' m ∧ News g L h' ((e, oe) :: (it, oi) :: (C, oC) :: (D, lst ys) :: news)) (fun _ _ => False) { s with heap := h, toks := tk })
    (fin : ∀ ys D h tk, Sel R (fun _ => true) its.size ys → Fr g L h m → News g L h ((D, lst ys) :: news) → (∀ q ∈ news, q.1 < D) → Q (.ref D) { s with heap := h, toks := tk })
    (hcell : ∀ y ∈ scope.names, y.2 ≠ .cell) (hkind : scope.kind = .function) (hxa : scope.names.lookup a = some .local) (hxb : scope.names.lookup b = some .local) (hab : a ≠ b) :
    wpAny (MG w) A (call (.type "enumerate") [.ref l]) (SrcT w A E elt (.Tuple [.Name a pa, .Name b pb] kk tp) iter scope pos cl env (compPost (MG w) A E none Q)) E s := by
  have hl : s.heap.IsList l its := ⟨_, (N _ hm).1, rfl, _, rfl⟩
  have hlt : l < s.heap.objs.size := Heap.lt_size (N _ hm).1
  refine call_enumerate_list hl fun h0 hE hI hsz hk => ?_
  refine wpAny_pyIter_enum hE ?_
  have W := WalksT.enumerate (prog := PySem.Challenge.rw_ny0334_01.prog) (w := w) hh (s.heap.objs.size + 1) s.heap.objs.size l (Nat.succ_ne_self _) (Nat.ne_of_lt (Nat.lt_succ_of_lt hlt)) (Nat.ne_of_lt hlt) its
  refine wpAny_newObj_type (T := "list") (data := .seq #[]) ?_ (by show (0 : Nat) ≤ sizeLine; exact Nat.zero_le _)
  show wpAny _ _ _ _ _ { s with heap := h0.push (lst []) }
  refine wpAny_newFunctionEnv (s := { s with heap := h0.push (lst []) }) hcell (fun y hy => by cases hy) (fun h2 hns2 hs2 => ?_) hkind
  have hLlt : @LT.lt Nat _ L s.heap.objs.size := F.ns.lt
  have fresh : ∀ b, s.heap.objs.size ≤ b → g.get? b = none := fun b hb => by
    cases e : g.get? b with
    | none => rfl
    | some o => exact absurd (Heap.lt_size (F.keep b o e)) (Nat.not_lt.mpr hb)
  have old : ∀ q ∈ news, @LT.lt Nat _ q.1 s.heap.objs.size := fun q hq => Heap.lt_size (N q hq).1
  have hCe : (h0.push (lst [])).objs.size = s.heap.objs.size + 3 := by rw [Heap.size_push, hsz]
  have getD : (h0.push (lst [])).get? (s.heap.objs.size + 2) = some (lst []) := by rw [← hsz]; exact Heap.get?_push_size _ rfl
  have up2 : ∀ b o, h0.get? b = some o → h2.get? b = some o := fun b o e => hs2.extBut b o (by rw [hCe]; have : @LT.lt Nat _ b h0.objs.size := Heap.lt_size e; rw [hsz] at this; exact Nat.ne_of_lt (Nat.lt_succ_of_lt this)) (Heap.get?_push_of_some _ (Heap.get?_push_of_some _ e))
  have getD2 : h2.get? (s.heap.objs.size + 2) = some (lst []) := hs2.extBut _ _ (by rw [hCe]; exact Nat.ne_of_lt (Nat.add_lt_add_left (by decide) _)) (Heap.get?_push_of_some _ getD)
  show codeAny _ _ (.compStart _ 0 (.ref (s.heap.objs.size + 1)) (.ref h0.objs.size) (compEnvC scope cl (h0.push (lst [])).objs.size env)) (compPost (MG w) A E none Q (.ref h0.objs.size) (h0.push (lst [])).objs.size) { s with heap := h2 }
  rw [hsz]
  rw [hCe] at hns2 hs2 ⊢
  generalize hit : s.heap.objs.size = it at *
  refine hideG fun G0 k0 => ?_; obtain ⟨oC, hoC, hCn⟩ := ns_obj hns2; refine k0 ?_; clear k0 G0
  refine hideG fun G0 k0 => ?_; obtain ⟨oi, hoi, hir⟩ := id hI; refine k0 ?_; clear k0 G0
  have N2 : News g L h2 ((it + 1, _) :: (it, oi) :: (it + 3, oC) :: (it + 2, lst []) :: news) := fun q hq => by
    rcases List.mem_cons.mp hq with rfl | hq
    · exact ⟨up2 _ _ hE, Ne.symm (Nat.ne_of_lt (Nat.lt_add_right 1 hLlt)), fresh _ (Nat.le_add_right _ _)⟩
    rcases List.mem_cons.mp hq with rfl | hq
    · exact ⟨up2 _ _ hoi, Ne.symm (Nat.ne_of_lt hLlt), fresh _ (Nat.le_refl _)⟩
    rcases List.mem_cons.mp hq with rfl | hq
    · exact ⟨hoC, Ne.symm (Nat.ne_of_lt (Nat.lt_add_right 3 hLlt)), fresh _ (Nat.le_add_right _ _)⟩
    rcases List.mem_cons.mp hq with rfl | hq
    · exact ⟨getD2, Ne.symm (Nat.ne_of_lt (Nat.lt_add_right 2 hLlt)), fresh _ (Nat.le_add_right _ _)⟩
    · exact ⟨up2 _ _ (hk _ _ (N q hq).1), (N q hq).2⟩
  have F2 : Fr g L h2 m := (F.keeps hk).keeps up2
  have stw : ∀ b ∈ [it + 1, it], g.get? b = none := fun b hb => by
    rcases List.mem_cons.mp hb with rfl | hb
    · exact fresh _ (Nat.le_add_right _ _)
    · rw [List.mem_singleton.mp hb]; exact fresh _ (Nat.le_refl _)
  have Lw : L ∉ [it + 1, it] := fun hb => by
    have : @Eq Nat L (it + 1) ∨ @Eq Nat L it := by simpa using hb
    omega
  have off : ∀ {oC' : Obj} {ys : List Value}, ∀ q ∈ (it + 3, oC') :: (it + 2, lst ys) :: news, q.1 ∉ [it + 1, it] := fun {oC' ys} q hq hb => by
    have hb' : @Eq Nat q.1 (it + 1) ∨ @Eq Nat q.1 it := by simpa using hb
    rcases List.mem_cons.mp hq with rfl | hq
    · have hb2 : @Eq Nat (it + 3) (it + 1) ∨ @Eq Nat (it + 3) it := hb'
      omega
    rcases List.mem_cons.mp hq with rfl | hq
    · have hb2 : @Eq Nat (it + 2) (it + 1) ∨ @Eq Nat (it + 2) it := hb'
      omega
    · have := old q hq
      omega
  have st2 : (∃ o, IsEnum h2 (it + 1) it (0 : Nat) o) ∧ h2.IsListIter it l 0 ∧ h2.IsList l its := ⟨⟨.none, up2 _ _ hE⟩, ⟨oi, up2 _ _ hoi, hir⟩, ⟨_, up2 _ _ (hk _ _ (N _ hm).1), rfl, _, rfl⟩⟩
  have loop : codeAny (MG w) A (.compLoop (.ListComp elt [⟨.Tuple [.Name a pa, .Name b pb] kk tp, iter, [], 0⟩] scope pos) 0 (.ref (it + 1)) (.ref (it + 2)) (compEnvC scope cl (it + 3) env)) (compPost (MG w) A E none Q (.ref (it + 2)) (it + 3)) { s with heap := h2 } := by
    refine kcp_loop (fun n' s' => ∃ i ys oe oi oC m' h tk, s' = { s with heap := h, toks := tk } ∧ n' = its.size + 1 - i ∧ i ≤ its.size ∧ Sel R (fun _ => true) i ys ∧ Fr g L h m ∧ NsObj oC m' ∧ News g L h ((it + 1, oe) :: (it, oi) :: (it + 3, oC) :: (it + 2, lst ys) :: news) ∧
      ((∃ o, IsEnum h (it + 1) it (i : Nat) o) ∧ h.IsListIter it l i ∧ h.IsList l its)) ?_ (its.size + 1) ⟨0, [], _, oi, oC, _, h2, s.toks, rfl, rfl, Nat.zero_le _, .zero, F2, hCn, N2, st2⟩
    intro n' s' hP1; refine hideG fun G0 k0 => ?_; obtain ⟨i, ys, oe, oi', oC', m', h5, tk5, eq1, eq2, hi, hs, F5, hC5, N5, st5⟩ := hP1; refine k0 ?_; clear k0 G0; subst eq1; subst eq2
    by_cases hlt' : i < its.size
    · refine W.item i _ _ _ hlt' st5 fun T vals h6 tk6 hP hT hTup hMid kp6 => ?_
      refine hideG fun G0 k0 => ?_; obtain ⟨t, x, hx, eq1⟩ := hP; refine k0 ?_; clear k0 G0; subst eq1
      obtain ⟨F6, N6⟩ := keepFN kp6 F5 (fun q hq => N5 q (.tail _ (.tail _ hq))) Lw stw off
      refine W.go _ _ _ i T _ _ _ hMid fun h7 st7 kp7 => ?_
      obtain ⟨F7, N7⟩ := keepFN kp7 F6 N6 Lw stw off
      have hTw := W.apart i T h6 hMid
      have hTup7 : h7.IsTuple T #[.int i t, x] := by
        refine hideG fun G0 k0 => ?_; obtain ⟨o, e, r⟩ := hTup; refine k0 ?_; clear k0 G0
        exact ⟨o, kp7 _ _ hTw e, r⟩
      have eC := N7 (it + 3, oC') (.head _)
      refine kcp_assign (env := compEnvC scope cl (it + 3) env) hh hTup7 (lookup_relabel_local hxa) (lookup_relabel_local hxb) (by simp [compEnvC, relabel, hkind]) (hC5.ns eC.1) fun h8 tk8 hn8 kp8 => ?_
      refine hideG fun G0 k0 => ?_; obtain ⟨oC8, hoC8, hC8⟩ := ns_obj hn8; refine k0 ?_; clear k0 G0
      refine hideG fun G0 k0 => ?_; obtain ⟨⟨o9, e9⟩, ⟨oi9, hoi9, hir9⟩, hl9⟩ := st7; refine k0 ?_; clear k0 G0
      have kp8' : ∀ c o, c ∉ [it + 3] → h7.get? c = some o → h8.get? c = some o := fun c o hc e => kp8 c o (fun q => hc (List.mem_singleton.mpr q)) e
      have L3 : L ∉ [it + 3] := fun hb => by
        have : @Eq Nat L (it + 3) := List.mem_singleton.mp hb
        omega
      obtain ⟨F8, N8⟩ := keepFN (l := (it + 2, lst ys) :: news) kp8' F7 (fun q hq => N7 q (.tail _ hq)) L3 (fun b hb => by rw [List.mem_singleton.mp hb]; exact eC.2.2) (fun q hq hb => by
        have hb' : @Eq Nat q.1 (it + 3) := by simpa using hb
        rcases List.mem_cons.mp hq with rfl | hq
        · have e' : @Eq Nat (it + 2) (it + 3) := hb'
          omega
        · have := old q hq
          omega)
      have n3 : ∀ {z : Nat}, z < it + 3 → z ∉ [it + 3] := fun hz hb => by rw [List.mem_singleton.mp hb] at hz; exact Nat.lt_irrefl _ hz
      have hE8 := kp8' _ _ (n3 (Nat.add_lt_add_left (by decide) it)) e9
      have hI8 := kp8' _ _ (n3 (Nat.lt_add_of_pos_right (by decide))) hoi9
      have NN : News g L h8 ((it + 1, _) :: (it, oi9) :: (it + 3, oC8) :: (it + 2, lst ys) :: news) := fun q hq => by
        rcases List.mem_cons.mp hq with rfl | hq
        · exact ⟨hE8, (N5 _ (.head _)).2⟩
        rcases List.mem_cons.mp hq with rfl | hq
        · exact ⟨hI8, (N5 _ (.tail _ (.head _))).2⟩
        rcases List.mem_cons.mp hq with rfl | hq
        · exact ⟨hoC8, eC.2⟩
        · exact N8 q hq
      refine wpAny_mono (h (it + 1) it (it + 3) (it + 2) i x t ys _ oi9 oC8 _ h8 _ hx F8 hC8 (by simp [hab]) (by simp) NN) (fun y s₄ hg => ?_) fun _ _ q => q.elim
      refine hideG fun G0 k0 => ?_; obtain ⟨hr, h9, tk9, eq1, F9, N9⟩ := hg; refine k0 ?_; clear k0 G0; subst eq1
      have U : Upd (it + 2) (PySem.W.listOf ys.toArray ys.length) (PySem.W.listOf (ys.toArray.push y) (ys.length + 1)) ((it + 1, { cls := .type "enumerate", dict := none, data := .fields #[.none, .bool false, .ref it, rawInt ((i + 1 : Nat) : Int), .none, o9], slots := #[] }) :: (it, oi9) :: (it + 3, oC8) :: (it + 2, lst ys) :: news) ((it + 1, { cls := .type "enumerate", dict := none, data := .fields #[.none, .bool false, .ref it, rawInt ((i + 1 : Nat) : Int), .none, o9], slots := #[] }) :: (it, oi9) :: (it + 3, oC8) :: (it + 2, lst (ys ++ [y])) :: news) := by
        rw [← Mine.lst_snoc]
        exact .tail (Nat.ne_of_lt (Nat.add_lt_add_left (by decide) it)) (.tail (Nat.ne_of_lt (Nat.lt_add_of_pos_right (by decide))) (.tail (Ne.symm (Nat.ne_of_lt (Nat.add_lt_add_left (by decide) it))) (.head fun q hq => Nat.ne_of_lt (Nat.lt_add_right 2 (old q hq)))))
      refine append_K (s := { s with heap := h9, toks := tk9 }) F9 N9 U (fun h10 F10 N10 => ?_) (by have := hs.len; show ys.toArray.size ≤ sizeLine; rw [List.size_toArray]; omega)
      refine ⟨its.size + 1 - (i + 1), sub_step1 (by assumption), i + 1, ys ++ [y], _, oi9, oC8, _, h10, tk9, rfl, rfl, hlt', .yes rfl hr hs, F10, hC8, N10, ⟨o9, (N10 _ (.head _)).1⟩, ⟨oi9, (N10 _ (.tail _ (.head _))).1, hir9⟩, ⟨_, (N10 _ (.tail _ (.tail _ (.tail _ (.tail _ hm))))).1, rfl, _, rfl⟩⟩
    · have hin : i = its.size := by omega
      subst hin
      refine W.done _ _ _ st5 fun h6 tk6 kp6 => ?_
      obtain ⟨F6, N6⟩ := keepFN kp6 F5 (fun q hq => N5 q (.tail _ (.tail _ hq))) Lw stw off
      have eC := N6 (it + 3, oC') (.head _)
      refine ⟨m', hC5.ns eC.1, fun h'' hs' => fin ys (it + 2) h'' tk6 hs (F6.change hs' eC.2.1 eC.2.2) (fun q hq => ?_) fun q hq => Nat.lt_add_right 2 (old q hq)⟩
      have := N6 q (.tail _ hq)
      refine ⟨hs'.extBut _ _ ?_ this.1, this.2⟩
      rcases List.mem_cons.mp hq with rfl | hq
      · exact Nat.ne_of_lt (Nat.add_lt_add_left (by decide) it)
      · exact Nat.ne_of_lt (Nat.lt_add_right 3 (old q hq))
  exact codeAny_compStart_list loop (W.self 0 _ _ _ st2 loop)
end
end Mine
end

section
open PySem PySem.Spec PySem.Calls PySem.W PyProof.Rows PyProof.Rows.LCg PySem.SeqAt
set_option Elab.async false
set_option maxRecDepth 100000
set_option maxHeartbeats 2000000
set_option linter.unusedVariables false
namespace Mine
section
variable {w : World} {A A₀ : Around} {base g : Heap} {outer : List Env} {L : Addr} {m : Str → Option Value} {s : Shared} {news : List (Addr × Obj)} {env : Env} {target iter : PySem.Expr} {fpos : Pos} {body : List Stmt} {E : Value → Shared → Prop} {xv : Value} {Q : Flow → Shared → Prop}
noncomputable def ForSrcT (w : World) (A : Around) (E : Value → Shared → Prop) (Q : Flow → Shared → Prop) (target : PySem.Expr) (body : List Stmt) (env : Env) (xv : Value) (s₁ : Shared) : Prop :=
  wpAny (MG w) A (pyIter xv) (fun it s₂ => codeAny (MG w) A (.forLoop target it body [] env) (fun r s' => match r with | .ok f => Q f s' | .error e => cameBackBy (MG w) A env E e s') s₂) E s₁
theorem for_ET (h : wpAny (MG w) A (eval iter env) (ForSrcT w A E Q target body env) E s)
    (hs : ∀ x, foldedSetIterable iter env x = pure x) : Here (wpAny (MG w) A (exec (.For target iter body [] fpos) env) Q E s) := wpAny_For h hs

theorem for_items {a b : Str} {pa pb tp : Pos} {kk : Nat} {vw d : Addr} {oW : Obj} {kvs : List (Int × Value)} (hh : A.handled = none) (F : Fr g L s.heap m) (N : News g L s.heap news) (hvw : (vw, ({ cls := .type "dict_items", data := .fields #[.ref d] } : Obj)) ∈ news) (hd : (d, oW) ∈ news) (hdict : oW.IsDictOf (PySem.intKind PySem.Challenge.rw_ny0334_01.prog w) kvs)
    (J : Nat → (Str → Option Value) → List (Addr × Obj) → Prop) (hS : ∀ i m' led, J i m' led → (d, oW) ∈ led) (B : Below A₀ base outer g) (j0 : J 0 m news)
    (turn : ∀ I i k t x g' m' led o h tk, kvs[i]? = some (k, x) → J i m' led → Slid (fra outer) g g' → Below A₀ base outer g' → Fr g' L h (fun z => if z = b then some x else if z = a then some (.int k t) else m' z) → News g' L h ((I, o) :: led) → (∀ q ∈ led, q.1 ≠ I) →
      wpAny (MG w) A (execs body env) (fun f s₃ => match f with
        | .next | .cont => Goes outer g' L s (fun m'' l => ∃ led', l = (I, o) :: led' ∧ J (i + 1) m'' led' ∧ ∀ q ∈ led', q.1 ≠ I) s₃
        | .brk => Q .next s₃
        | .ret v => Q (.ret v) s₃) (fun _ _ => False) { s with heap := h, toks := tk })
    (fin : ∀ g' m' led h tk, J kvs.length m' led → Slid (fra outer) g g' → Below A₀ base outer g' → Fr g' L h m' → News g' L h led → Q .next { s with heap := h, toks := tk })
    (hL : env.locals = L) (ha : env.kindOf a = some .local) (hb : env.kindOf b = some .local) (hp : (env.scope.kind == .class || (env.scope.kind == .module && env.locals != env.globals)) = false) :
    ForSrcT w A E Q (.Tuple [.Name a pa, .Name b pb] kk tp) body env (.ref vw) s := by
  subst hL
  have hD : s.heap.DictOf (PySem.intKind PySem.Challenge.rw_ny0334_01.prog w) d kvs := kda_dict N hd hdict
  obtain ⟨ep, hat⟩ := hD.dictAt
  have hdlt : d < s.heap.objs.size := Heap.lt_size (N _ hd).1
  refine wpAny_pyIter_items ⟨_, (N _ hvw).1, rfl, rfl⟩ hat ?_
  have W := kti_itemsTurns (prog := PySem.Challenge.rw_ny0334_01.prog) (w := w) (knd := PySem.intKind PySem.Challenge.rw_ny0334_01.prog w) (elts := [.Name a pa, .Name b pb]) (kk := kk) (pos := tp) hh s.heap.objs.size d (Nat.ne_of_lt hdlt) kvs ep
  have hLlt : @LT.lt Nat _ env.locals s.heap.objs.size := F.ns.lt
  have freshI : g.get? s.heap.objs.size = none := next_is_new F
  generalize hI : s.heap.objs.size = I at *
  have upI : ∀ (o' : Obj) b o, s.heap.get? b = some o → (s.heap.push o').get? b = some o := fun o' b o e => Heap.get?_push_of_some _ e
  refine codeAny_forLoop_any (ForS A₀ base outer g env.locals s kvs.length (fun i m' led => J i m' led ∧ ∀ q ∈ led, q.1 ≠ I) I (fun i h => (∃ ok ov, IsItemIter h I d i kvs.length ep ok ov) ∧ h.DictAt (PySem.intKind PySem.Challenge.rw_ny0334_01.prog w) d kvs ep)) ?_ (kvs.length + 1)
    ⟨0, g, m, news, { cls := .type "dict_itemiterator", data := .fields #[.none, .bool false, .ref d, .int 0 0, .int kvs.length 0, .int ep 0, .none, .none] }, _, s.toks, rfl, rfl, Nat.zero_le _, ⟨j0, fun q hq => by rw [← hI]; exact Nat.ne_of_lt (Heap.lt_size (N q hq).1)⟩, Slid.refl .., B, F.keeps (upI _), fun q hq => ?_, ⟨.none, .none, by rw [← hI]; exact Heap.get?_push_size _ rfl⟩, hat.at' fun o e => upI _ _ _ e⟩
  · intro k s' hP1; refine hideG fun G0 k0 => ?_; obtain ⟨i, g', m', led, o, h, tk, eq1, eq2, hi, ⟨hj, hjI⟩, Sl, B', F', N', st⟩ := hP1; refine k0 ?_; clear k0 G0; subst eq1; subst eq2
    have nI := N' (I, o) (.head _)
    have Lw : env.locals ∉ [I] := fun hm => by
      have : @Eq Nat env.locals I := List.mem_singleton.mp hm
      omega
    have gw : ∀ b ∈ [I], g'.get? b = none := fun b hb => by rw [List.mem_singleton.mp hb]; exact nI.2.2
    have ow : ∀ q ∈ led, q.1 ∉ [I] := fun q hq hm => hjI q hq (List.mem_singleton.mp hm)
    by_cases hlt : i < kvs.length
    · refine W.item i _ _ _ hlt st fun v h1 tk1 hMd kp1 => ?_
      obtain ⟨F1, N1⟩ := keepFN kp1 F' (fun q hq => N' q (.tail _ hq)) Lw gw ow
      refine W.go i v { s with heap := h1, toks := tk1 } _ _ hMd fun h2 hP st2 kp2 => ?_
      obtain ⟨F2, N2⟩ := keepFN kp2 F1 N1 Lw gw ow
      refine hideG fun G0 k0 => ?_; obtain ⟨T, key, k, x, eq1, hx, hkey, hT⟩ := hP; refine k0 ?_; clear k0 G0; subst eq1
      obtain ⟨t, rfl⟩ : ∃ t, key = .int k t := by
        cases key with
        | int n t => exact ⟨t, by have e : (n == k) = true := hkey; rw [eq_of_beq e]⟩
        | _ => cases hkey
      refine kcp_assign (env := env) hh hT ha hb hp F2.ns fun h3 tk3 hn3 kp3 => ?_
      have F3 : Fr g' env.locals h3 (fun z => if z = b then some x else if z = a then some (.int k t) else m' z) := ⟨hn3, fun c ob e => kp3 c ob (fun q => by
        have := F2.above
        have hc := Heap.lt_size e
        rw [q] at hc
        exact absurd (Nat.lt_of_lt_of_le hc this) (Nat.lt_irrefl _)) (F2.keep c ob e), F2.above⟩
      have N3 : News g' env.locals h3 led := fun q hq => ⟨kp3 _ _ (N2 q hq).2.1 (N2 q hq).1, (N2 q hq).2⟩
      refine hideG fun G0 k0 => ?_; obtain ⟨⟨ok, ov, hit⟩, hdat⟩ := st2; refine k0 ?_; clear k0 G0
      have hI3 := kp3 _ _ (fun e => by have e' : @Eq Nat I env.locals := e; omega) hit
      obtain ⟨oI, hoI⟩ : ∃ oI, h3.get? I = some oI := ⟨_, hI3⟩
      have NN : News g' env.locals h3 ((I, oI) :: led) := fun q hq => by
        revert q; refine all_cons (⟨hoI, nI.2⟩) ?_; intro q hq; exact N3 q hq
      refine wpAny_mono (turn I i k t x g' m' led oI h3 tk3 hx hj Sl B' F3 NN hjI) (fun f s₃ hf => ?_) fun _ _ q => q.elim
      have go : Goes outer g' env.locals s (fun m'' l => ∃ led', l = (I, oI) :: led' ∧ J (i + 1) m'' led' ∧ ∀ q ∈ led', q.1 ≠ I) s₃ → ∃ k', k' < kvs.length + 1 - i ∧ ForS A₀ base outer g env.locals s kvs.length (fun i m' led => J i m' led ∧ ∀ q ∈ led, q.1 ≠ I) I (fun i h => (∃ ok ov, IsItemIter h I d i kvs.length ep ok ov) ∧ h.DictAt (PySem.intKind PySem.Challenge.rw_ny0334_01.prog w) d kvs ep) k' s₃ := by
        intro hP1; refine hideG fun G0 k0 => ?_; obtain ⟨g4, m4, l4, h4, tk4, eq1, S4, F4, N4, led4, eq2, j4, hI4⟩ := hP1; refine k0 ?_; clear k0 G0; subst eq1; subst eq2
        refine ⟨kvs.length + 1 - (i + 1), sub_step1 (by assumption), i + 1, g4, m4, led4, oI, h4, tk4, rfl, rfl, hlt, ⟨j4, hI4⟩, Sl.trans S4, below_slid B' S4, F4, N4, ⟨ok, ov, ((N4 (I, oI) (.head _)).1.trans hoI.symm).trans hI3⟩, ?_⟩
        have e1 := (N2 _ (hS _ _ _ hj)).1
        exact hdat.at' fun o' e => by rw [e1] at e; cases e; exact (N4 _ (.tail _ (hS _ _ _ j4))).1
      cases f with
      | next => exact go hf
      | cont => exact go hf
      | brk => exact hf
      | ret v => exact hf
    · have hin : i = kvs.length := by omega
      subst hin
      refine W.done _ _ _ st fun h1 tk1 kp1 => wpAny_execs_nil ?_
      obtain ⟨F1, N1⟩ := keepFN kp1 F' (fun q hq => N' q (.tail _ hq)) Lw gw ow
      exact fin g' m' led h1 tk1 hj Sl B' F1 N1
  · rcases List.mem_cons.mp hq with rfl | hq
    · exact ⟨by rw [← hI]; exact Heap.get?_push_size _ rfl, fun e => by have e' : @Eq Nat I env.locals := e; omega, freshI⟩
    · exact ⟨upI _ _ _ (N q hq).1, (N q hq).2⟩
end
end Mine
end

section
open PySem PySem.Spec PySem.Calls PySem.W PyProof.Rows PyProof.Rows.LCg PySem.SeqAt
set_option Elab.async false
set_option maxRecDepth 100000
set_option maxHeartbeats 2000000
set_option linter.unusedVariables false
namespace Mine
section
variable {w : World} {A : Around} {E : Value → Shared → Prop} {s : Shared} {env : Env} {o : PySem.Expr} {name : Str} {apos pos : Pos} {args : List PySem.Expr} {Q : Value → Shared → Prop}
theorem meth_star (hm : methodCallForm (args.length + 0) (backTo pos (starEach args env)) [] = false)
    (hb : ∀ Q' : Value → Shared → Prop, wpAny (MG w) A (eval o env) Q' E s → wpAny (MG w) A (attributeBase o name env (eval o env)) Q' E s)
    (h : wpAny (MG w) A (eval o env) (fun ov s₁ => wpAny (MG w) A (getAttr ov name true) (fun f s₂ => wpAny (MG w) A (callWith pos f [] (backTo pos (starEach args env)) []) Q E s₂) E s₁) E s) :
    wpAny (MG w) A (eval (.Call (.Attribute o name apos) args [] pos) env) Q E s := by
  rw [arm_eval_Call]
  refine wpAny_bind (wpAny_mono (hb _ h) (fun ov s₁ h₁ => ?_) fun _ _ x => x)
  refine wpAny_bind (wpAny_standAt ?_)
  show wpAny _ _ (methodCall o name apos pos env ov (args.length + 0) (backTo pos (starEach args env)) []) _ _ _
  unfold methodCall
  rw [hm]
  refine wpAny_bind (wpAny_holding ?_)
  show wpAny _ _ (getAttr ov name true >>= fun f => pure (f, [])) _ _ _
  refine wpAny_bind (wpAny_mono h₁ (fun f s₂ h₂ => wpAny_pure ?_) fun _ _ x => x)
  show wpAny _ _ (pure pos >>= _) _ _ _
  exact wpAny_bind (wpAny_pure h₂)
variable {K : Frag} {h₀ : Heap} {first : List Value} {e : PySem.Expr} {rest : List PySem.Expr} {q g L : Addr} {self : Value} {news : List (Addr × Obj)}
theorem callWith_MS (X : K.In h₀) (N : News h₀ L s.heap news) (hq : (q, methodObj (.ref g) self) ∈ news) (hf : fnIn K g = true)
    (h : wpAny (MG w) A (spliced (backTo pos (starEach (e :: rest) env))) (fun vs s₁ => MethP K q g self s₁.heap ∧ wpAny (MG w) A (call (.ref q) (first ++ vs)) Q E s₁) E s)
    (he : starEach (e :: rest) env = (false, eval e env) :: starEach rest env := by rfl) (hst : (backTo pos (starEach rest env)).any (·.1) = true := by rfl) :
    wpAny (MG w) A (callWith pos (.ref q) first (backTo pos (starEach (e :: rest) env)) []) Q E s := by
  rw [he] at h ⊢
  exact ks_call (by show (false || (backTo pos (starEach rest env)).any (·.1)) = true; rw [hst]; rfl) (keeps_M hf) (evalArgs_plain h)
end
end Mine
end

section
open PySem PySem.Spec PySem.Calls PySem.W PyProof.Rows PyProof.Rows.LCg PySem.SeqAt
set_option Elab.async false
set_option maxRecDepth 100000
set_option maxHeartbeats 2000000
set_option linter.unusedVariables false
namespace Mine
section
variable {w : World} {base : Heap} {K : Frag} {p : Program} {loose : List Str} {mean : ExcName → Option Value} {mg mb : Str → Option Value}
  {name qual : Str} {params : Arguments} {body : List Stmt} {scope : Scope} {dV kV doc pm cdv ct oc : Value} {an od : Option Addr} {osl : Array (Option Value)} {f : Addr} {vs : List Value} {binds : List (Str × Value)} {d : Nat} {pre : List (Addr × Obj)} {post rs : Value → List (Addr × Obj) → Prop}
theorem Con.ofK (X : K.In base) (T : Top p loose mean mg mb base)
    (ho : K.lookup f = some ⟨oc, od, .func (fnOf name qual params body scope dV kV doc pm an cdv ct), osl⟩) (hcd : codeIn K cdv qual = true)
    (hbind : ∀ S, peek K S (bindArgs (fnOf name qual params body scope dV kV doc pm an cdv ct) ⟨vs, []⟩) = some binds) (hloc : ∀ y ∈ binds, scope.names.lookup y.1 = some .local)
    (h : ∀ (dp : Nat) (envs : List Env) (gd : Option (List Code)) (un : Nat) (s : Shared) (g : Heap) (L : Addr) (h₁ : Heap) (tk : Nat), dp + d < recursionLimit → un + 100 * d ≤ 5000 →
      Below (Ar dp envs gd un) base envs g → K.In g → Top p loose mean mg mb g → Fr g L h₁ (fun y => binds.reverse.lookup y) → News g L h₁ pre → (∀ q ∈ pre, q.1 < L) →
      wpAny (model PySem.Challenge.rw_ny0334_01.prog w) ((Ar dp envs gd un).deeper (envOf qual scope L f cdv)) (execs body (envOf qual scope L f cdv)) (BodyQ g L envs s post) (BodyE w ((Ar dp envs gd un).deeper (envOf qual scope L f cdv)) (envOf qual scope L f cdv) g L envs s rs) { s with heap := h₁, toks := tk })
    (hco : scope.isCoroutine = false) (hgen : scope.isGenerator = false) (hk : scope.kind = .function)
    (hcell : ∀ x ∈ scope.names, x.2 ≠ .cell) : Con w base f vs d pre post rs := by
  intro dp envs gd un s Q E hdp hun hb hff hp hpf hQ hE
  have hbg : base.StaysIn (hideAll s.heap (pre.map (·.1))) := fun b o e => hideAll_get _ (hb b o e) fun q => by
    refine hideG fun G0 k0 => ?_; obtain ⟨x, hx, e'⟩ := List.mem_map.mp q; refine k0 ?_; clear k0 G0
    have := (hp x hx).2
    rw [e', e] at this; cases this
  have Bg : Below (Ar dp envs gd un) base envs (hideAll s.heap (pre.map (·.1))) := ⟨rfl, hbg, funFrames_hideAll hff fun env he a ha q => by
    refine hideG fun G0 k0 => ?_; obtain ⟨x, hx, e'⟩ := List.mem_map.mp ha; refine k0 ?_; clear k0 G0
    exact hpf x hx (List.mem_filterMap.mpr ⟨env, he, by rw [q, ← e']⟩)⟩
  refine (codeAny_call_def (fd := fnOf name qual params body scope dV kV doc pm an cdv ct) (body := body) (binds := binds) (show dp < recursionLimit by omega) (hb _ _ (X _ _ ho)) rfl (T.nolimit.keeps hb) (codeRec_of (X.keeps hb) hcd) rfl (kp_binds (X.keeps hb) hbind) hcell hloc (fun h₁ hns hk₁ => ?_) hco hgen hk)
  have F₁ : Fr (hideAll s.heap (pre.map (·.1))) s.heap.objs.size h₁ (fun y => binds.reverse.lookup y) := ⟨hns, fun b o e => hk₁ b o (of_hideAll _ e), Nat.le_of_eq (hideAll_size _ _)⟩
  have N₁ : News (hideAll s.heap (pre.map (·.1))) s.heap.objs.size h₁ pre := fun q hq => ⟨hk₁ _ _ (hp q hq).1, Nat.ne_of_lt (Heap.lt_size (hp q hq).1), hideAll_none _ (List.mem_map_of_mem hq)⟩
  refine wpAny_mono (h dp envs gd un s _ s.heap.objs.size h₁ _ hdp hun Bg (X.keeps hbg) (T.keeps hbg) F₁ N₁ fun q hq => Heap.lt_size (hp q hq).1) ?_ ?_
  · intro fl s' hP1; refine hideG fun G0 k0 => ?_; obtain ⟨g', m', led, h', tk', rfl, S, F', N', hpost⟩ := hP1; refine k0 ?_; clear k0 G0
    obtain ⟨e1, e2⟩ := ents_of (L := s.heap.objs.size) hb hp S N'
    exact hQ _ led h' tk' hpost (chg_of S F'.keep) e1 e2
  · intro e s' he
    refine wpAny_mono he ?_ fun _ _ x => x.elim
    intro _ s'' hP1; refine hideG fun G0 k0 => ?_; obtain ⟨g', led, h', tk', rfl, S, hk', N', hrs⟩ := hP1; refine k0 ?_; clear k0 G0
    obtain ⟨e1, e2⟩ := ents_of (L := s.heap.objs.size) hb hp S N'
    exact hE e led h' tk' hrs (chg_of S hk') e1 e2
end
structure WaitsAt (w : World) (oW : Obj) (kvs : List (Int × Value)) (wl : List (Addr × Obj)) (ws : List (List Int)) : Prop where
  dict : oW.IsDictOf (PySem.intKind PySem.Challenge.rw_ny0334_01.prog w) kvs
  len : kvs.length = ws.length
  at_ : ∀ (i : Nat) (k : Int) (x : Value), kvs[i]? = some (k, x) → k = (i : Int) ∧ ∃ wa va na, x = .ref wa ∧ (wa, W.listOf (List.toArray va) na) ∈ wl ∧ IntsAre va (ws.getD i [])
  short : ∀ l ∈ ws, l.length ≤ 3
  rng : ∀ l ∈ ws, ∀ j ∈ l, 0 ≤ j ∧ j ≤ 3
noncomputable def initNs (ws : List (List Int)) : Nat → List Pn
  | 0 => []
  | n + 1 => addPs (initNs ws n) (n : Int) (ws.getD n [])
theorem sd_of {g h : Heap} {L dS N2 : Addr} {e1 e2 e3 e4 : Int} {k1 k2 k3 k4 t3 t4 : Tok} {pv fv : Int} {r : Value} {C rest : List (Addr × Obj)} (N : News g L h (C ++ (dS, dictOf [⟨e1, .str (Str.ofString "_node2info") k1, .ref N2⟩, ⟨e2, .str (Str.ofString "_ready_nodes") k2, r⟩, ⟨e3, .str (Str.ofString "_npassedout") k3, .int pv t3⟩, ⟨e4, .str (Str.ofString "_nfinished") k4, .int fv t4⟩] 4) :: rest)) :
    ∃ d, News g L h (C ++ (dS, sdict d N2 r pv fv) :: rest) := ⟨⟨e1, k1, e2, k2, e3, k3, t3, e4, k4, t4⟩, N⟩
theorem keys_gi {ns : List Pn} {k j : Int} (h : j ∈ keysN (giNs ns k)) : j ∈ keysN ns ∨ j = k := by
  unfold giNs at h
  split at h
  · exact .inl h
  · simp only [keysN, List.map_append, List.map_cons, List.map_nil, List.mem_append, List.mem_singleton] at h
    exact h
theorem keys_fold (k : Int) : ∀ (ms : List Int) (ns : List Pn) (j : Int), j ∈ keysN (ms.foldl (fun a j => addSu j k (giNs a j)) ns) → j ∈ keysN ns ∨ j ∈ ms
  | [], ns, j, h => .inl h
  | x :: ms, ns, j, h => by
    rcases keys_fold k ms _ j h with h | h
    · rw [keysN_add] at h
      rcases keys_gi h with h | h
      · exact .inl h
      · exact .inr (by rw [h]; exact .head _)
    · exact .inr (.tail _ h)
theorem keys_addPs {ns : List Pn} {k : Int} {ms : List Int} {j : Int} (h : j ∈ keysN (addPs ns k ms)) : j ∈ keysN ns ∨ j = k ∨ j ∈ ms := by
  rcases keys_fold k ms _ j h with h | h
  · rw [keysN_set] at h
    rcases keys_gi h with h | h
    · exact .inl h
    · exact .inr (.inl h)
  · exact .inr (.inr h)
theorem getD_mem {ws : List (List Int)} {n : Nat} {j : Int} (h : j ∈ ws.getD n []) : ws.getD n [] ∈ ws := by
  by_cases hn : n < ws.length
  · rw [List.getD_eq_getElem?_getD, List.getElem?_eq_getElem hn]; exact List.getElem_mem hn
  · rw [List.getD_eq_getElem?_getD, List.getElem?_eq_none (by omega)] at h; cases h
theorem init_keys {ws : List (List Int)} (hr : ∀ l ∈ ws, ∀ j ∈ l, 0 ≤ j ∧ j ≤ 3) : ∀ n, n ≤ 4 → ∀ j ∈ keysN (initNs ws n), 0 ≤ j ∧ j ≤ 3
  | 0, _, j, h => by cases h
  | n + 1, hn, j, h => by
    rcases keys_addPs h with h | h | h
    · exact init_keys hr n (by omega) j h
    · omega
    · exact hr _ (getD_mem h) j h
theorem init_len {ws : List (List Int)} (hr : ∀ l ∈ ws, ∀ j ∈ l, 0 ≤ j ∧ j ≤ 3) {n : Nat} (hn : n ≤ 4) (hd : (keysN (initNs ws n)).Nodup) : (initNs ws n).length ≤ 4 := by
  have := nodup_len _ [0, 1, 2, 3] hd fun x hx => by
    have := init_keys hr n hn x hx
    rcases or4i this with rfl | rfl | rfl | rfl <;> decide
  simpa [keysN] using this
theorem getD_short {ws : List (List Int)} (h : ∀ l ∈ ws, l.length ≤ 3) (n : Nat) : (ws.getD n []).length ≤ 3 := by
  by_cases hn : n < ws.length
  · rw [List.getD_eq_getElem?_getD, List.getElem?_eq_getElem hn]; exact h _ (List.getElem_mem hn)
  · rw [List.getD_eq_getElem?_getD, List.getElem?_eq_none (by omega)]; exact Nat.zero_le _
theorem init_su {ws : List (List Int)} (h : ∀ l ∈ ws, l.length ≤ 3) : ∀ n, ∀ q ∈ initNs ws n, q.2.2.length ≤ 3 * n
  | 0, q, hq => by cases hq
  | n + 1, q, hq => by
    have h1 := su_addPs (n : Int) (ws.getD n []) (init_su h n) q hq
    have h2 := getD_short h n
    omega
inductive InitM (S Wa : Addr) (m' : Str → Option Value) : Prop
  | mk (o1 o2 : Option Value) (e : m' = fun y => if y = Str.ofString "predecessors" then o2 else if y = Str.ofString "node" then o1 else List.lookup y [(Str.ofString "self", Value.ref S), (Str.ofString "graph", Value.ref Wa)].reverse) : InitM S Wa m'
inductive InitJ (w : World) (ws : List (List Int)) (S Wa D9 : Addr) (oW : Obj) (wl : List (Addr × Obj)) (i : Nat) (m' : Str → Option Value) (led : List (Addr × Obj)) : Prop
  | mk (hi : i ≤ 4) (hm : InitM S Wa m') (sl : List (Addr × Obj)) (e : led = (D9, { cls := Value.type "dict_items", data := Data.fields #[Value.ref Wa] }) :: (sl ++ (Wa, oW) :: wl)) (hS : SorterAt0 w S (initNs ws i) sl) (ap : ∀ q ∈ sl, ∀ r ∈ (D9, ({ cls := Value.type "dict_items", data := Data.fields #[Value.ref Wa] } : Obj)) :: (Wa, oW) :: wl, q.1 ≠ r.1) : InitJ w ws S Wa D9 oW wl i m' led
section
variable {w : World} {base : Heap} {p : Program} {loose : List Str} {mean : ExcName → Option Value} {mg mb : Str → Option Value}
theorem init_con (X : (k0.heap_1 w.params).In base) (T : Top p loose mean mg mb base) (S dS Wa : Addr) (oW : Obj) (kvs : List (Int × Value)) (wl : List (Addr × Obj)) (ws : List (List Int)) (hW : WaitsAt w oW kvs wl ws) (hlo : (Wa == sysModules) = false) (hws : ws.length = 4)
    (n1 : S ≠ dS) (n2 : S ≠ Wa) (n3 : dS ≠ Wa) (o1 : ∀ q ∈ wl, q.1 ≠ S) (o2 : ∀ q ∈ wl, q.1 ≠ dS) :
    Con w base 73 [.ref S, .ref Wa] 9 ((S, instObj 137 dS) :: (dS, dictOf [] 0) :: (Wa, oW) :: wl) (fun v l => v = .none ∧ ∃ sl, l = sl ++ (Wa, oW) :: wl ∧ SorterAt0 w S (initNs ws 4) sl ∧ ∀ q ∈ sl, ∀ r ∈ (Wa, oW) :: wl, q.1 ≠ r.1) (fun _ _ => False) := by
  k_with_none
  k_with "call ref" => refine here ?_
  k_with "StarOf ref" => refine here ?_
  k_with "exec For Tuple Call cons nil" => refine here ?_
  k_with "getMethod ref" => (k_here; (with_reducible show wpAny _ _ (getMethod (Value.ref _) (Str.ofString "items") _) _ _ _); k_dflt (refine' kdl_method (knd := PySem.intKind _ _) PySem.F.slot_dict_items PySem.F.type_dict_items ?N ?m ?d ?_; (case N => k_asm); (case m => k_mem); (case d => assumption); k_whole))
  k_with "k_all" => (refine' allLt_ne ?h ?x; (case h => tbn_find); (case x => omega))
  k_with "k_all" => assumption
  refine' Con.ofK (binds := [(Str.ofString "self", .ref S), (Str.ofString "graph", .ref Wa)]) X T ?ho ?hcd ?hb ?hl ?h ?c2 ?c3 ?c4 ?c5
  k_dflt ((case ho => k_is); (case hcd => k_is); (case hb => exact fun _ => rfl); (case hl => exact locs rfl); (case c2 => exact rfl); (case c3 => exact rfl); (case c4 => exact rfl); (case c5 => decide))
  intro dp envs gd un s g L h₁ tk hdp hun B Xg Tg F N hlt
  have m1 : @Ne Nat S dS := n1
  have m2 : @Ne Nat S Wa := n2
  have m3 : @Ne Nat dS Wa := n3
  have hdict := hW.dict
  refine hide1 fun Q1 hQ1 => ?_
  try k_fold
  k_steps
  refine for_ET ?_ (fun _ => rfl)
  k_steps
  rename_i N2 h0 oN hlo2 hs2 fs2 hi2 fi2 l2 h4 h3 h2 h1 F9 N9 D9 h10 F10 N10 l10
  obtain ⟨d, N11⟩ := sd_of (C := [(D9, { cls := Value.type "dict_items", data := Data.fields #[Value.ref Wa] }), (N2, oN), (S, instObj 137 dS)]) (rest := (Wa, oW) :: wl) N10
  refine hideG fun G0 k0 => ?_; obtain ⟨p1, p2, p3, p4⟩ := l2; refine k0 ?_; clear k0 G0
  refine hideG fun G0 k0 => ?_; obtain ⟨q1, q2, q3, q4, q5⟩ := l10; refine k0 ?_; clear k0 G0
  have N12 : News g L h10 ((D9, { cls := Value.type "dict_items", data := Data.fields #[Value.ref Wa] }) :: (cled0 S dS N2 d oN ++ (Wa, oW) :: wl)) := news_sub N11 fun q hq => by
    simp only [List.cons_append, List.nil_append, List.mem_cons] at hq ⊢
    rcases hq with e | e | e | e | e | e
    · exact .inl e
    · exact .inr (.inr (.inl e))
    · exact .inr (.inr (.inr (.inl e)))
    · exact .inr (.inl e)
    · exact .inr (.inr (.inr (.inr (.inl e))))
    · exact .inr (.inr (.inr (.inr (.inr e))))
  clear N9 F9 N10 N11
  refine for_items (L := L) (by rfl) F10 N12 (.head _) (.tail _ (List.mem_append_right _ (.head _))) hW.dict
    (InitJ w ws S Wa D9 oW wl) ?_ B ?_ ?_ ?_ rfl rfl rfl rfl
  · intro i m' led hP1; refine hideG fun G0 k0 => ?_; obtain ⟨_, _, sl, rfl, _⟩ := hP1; refine k0 ?_; clear k0 G0
    exact .tail _ (List.mem_append_right _ (.head _))
  · refine ⟨Nat.zero_le _, ⟨none, none, funext fun y => ?_⟩, _, rfl, ⟨dS, N2, d, oN, [], rfl, ⟨hi2, hlo2, .nil, List.nodup_nil, ?_, Nat.zero_le _⟩⟩, ?_⟩
    · by_cases e1 : y = Str.ofString "node"
      · subst e1; rfl
      by_cases e2 : y = Str.ofString "predecessors"
      · subst e2; rfl
      simp [e1, e2]
    · have x1 : @Ne Nat S N2 := by omega
      have x2 : @Ne Nat dS N2 := by omega
      show [S, dS, N2].Nodup
      simp only [List.nodup_cons, List.mem_cons, List.not_mem_nil, or_false, not_or]
      exact ⟨⟨n1, x1⟩, x2, by simp, List.nodup_nil⟩
    · have x1 : @Ne Nat S D9 := by omega
      have x2 : @Ne Nat dS D9 := by omega
      have x3 : @Ne Nat N2 D9 := by omega
      have x4 : @Ne Nat N2 Wa := by omega
      intro q hq r hr
      simp only [List.mem_cons, List.not_mem_nil, or_false] at hq
      rcases List.mem_cons.mp hr with rfl | hr
      · rcases hq with rfl | rfl | rfl
        · exact x1
        · exact x2
        · exact x3
      rcases List.mem_cons.mp hr with rfl | hr
      · rcases hq with rfl | rfl | rfl
        · exact n2
        · exact n3
        · exact x4
      · rcases hq with rfl | rfl | rfl
        · exact Ne.symm (o1 r hr)
        · exact Ne.symm (o2 r hr)
        · exact Ne.symm (Nat.ne_of_lt (tb_ltOf p4 r hr))
  · intro I i k t x g' m' led o h tk' hkv hP1 Sl B' F' N' hI; refine hideG fun G0 k0 => ?_; obtain ⟨hi4, ⟨v1, v2, rfl⟩, sl, rfl, hSl, hap⟩ := hP1; refine k0 ?_; clear k0 G0
    refine hideG fun G0 k0 => ?_; obtain ⟨rfl, wa, va, na, rfl, hwa, hva⟩ := hW.at_ i k x hkv; refine k0 ?_; clear k0 G0
    have hi : i < 4 := by
      have := (List.getElem?_eq_some_iff.mp hkv).1
      rw [hW.len, hws] at this; exact this
    clear F10 N12 Xg Tg
    have Xg := X.keeps B'.stays
    have Tg := T.keeps B'.stays
    have hSl' := hSl
    refine hideG fun G0 k0 => ?_; obtain ⟨dS', N2', d', oN', l', rfl, hS0⟩ := hSl'; refine k0 ?_; clear k0 G0
    have N1 : News g' L h ((S, instObj 137 dS') :: (dS', sdict d' N2' .none 0 0) :: (wa, W.listOf va.toArray na) :: (I, o) :: (D9, { cls := Value.type "dict_items", data := Data.fields #[Value.ref Wa] }) :: ((cled0 S dS' N2' d' oN' ++ nled l') ++ (Wa, oW) :: wl)) := fun q hq => by
      revert q; refine all_cons (N' _ (.tail _ (.tail _ (.head _)))) ?_; refine all_cons (N' _ (.tail _ (.tail _ (.tail _ (.head _))))) ?_; refine all_cons (N' _ (.tail _ (.tail _ (List.mem_append_right _ (.tail _ hwa))))) ?_; intro q hq; exact N' _ hq
    have hvl : va.length ≤ 3 := by rw [hva.length]; exact getD_short hW.short i
    refine hide1 fun Q2 hQ2 => ?_
    try k_fold
    k_steps
    refine meth_star (by rfl) (fun Q' hq => hq) ?_
    k_steps
    rename_i qa h11 F11 N11 l11
    refine callWith_MS Xg N11 (.head _) (by k_dflt k_is) ?_
    k_steps
    refine here (star_seq F11 N11 (.tail _ (.tail _ (.tail _ (.head _)))) rfl rfl (.inl rfl) (show va.toArray.toList = va from rfl) (by rw [List.size_toArray]; exact Nat.le_trans hvl (by decide)) fun h12 F12 N12 => ?_)
    clear F11 N11
    k_steps
    refine here ?_
    simp only [List.append_nil, List.nil_append, List.cons_append]
    have hlen := init_len hW.rng hi4 hS0.nd
    have hsh := getD_short hW.short i
    refine Con.useM (env := envOf (Str.ofString "TopologicalSorter.__init__") _ L 73 (.ref 72)) (rest := (I, o) :: (D9, { cls := Value.type "dict_items", data := Data.fields #[Value.ref Wa] }) :: (Wa, oW) :: wl) (add_con X T S (i : Int) t va _ hva (initNs ws i) _ hSl (by omega) hsh (3 * i) (init_su hW.short i) (by omega)) (N12 _ (.head _)).1 B' F12 N12 rfl rfl (dp_le (a := 7) hdp (by decide)) (un_le (a := 603) hun (by decide)) ?_ ?_ ?_ (fun _ _ _ _ _ h => h.elim)
    · intro q hq
      exact .tail _ (.tail _ (.tail _ (.tail _ (.tail _ (.tail _ (List.mem_append_left _ hq))))))
    · intro q hq
      rcases List.mem_cons.mp hq with rfl | hq
      · exact ⟨.tail _ (.tail _ (.tail _ (.tail _ (.head _)))), fun hm => by obtain ⟨x, hx, e⟩ := List.mem_map.mp hm; exact hI x (.tail _ (List.mem_append_left _ hx)) e⟩
      rcases List.mem_cons.mp hq with rfl | hq
      · exact ⟨.tail _ (.tail _ (.tail _ (.tail _ (.tail _ (.head _))))), fun hm => by obtain ⟨x, hx, e⟩ := List.mem_map.mp hm; exact hap x hx _ (.head _) e⟩
      · exact ⟨.tail _ (.tail _ (.tail _ (.tail _ (.tail _ (.tail _ (List.mem_append_right _ hq)))))), fun hm => by obtain ⟨x, hx, e⟩ := List.mem_map.mp hm; exact hap x hx q (.tail _ hq) e⟩
    · rintro v sl2 g3 h3 tk3 ⟨rfl, hS2⟩ S3 B3 F3 N3 ap3
      k_steps
      refine hQ2 _ _ ?_
      show Goes envs g' L _ _ _
      refine ⟨g3, _, (I, o) :: (D9, { cls := Value.type "dict_items", data := Data.fields #[Value.ref Wa] }) :: (sl2 ++ (Wa, oW) :: wl), h3, _, rfl, S3, F3, news_sub N3 (fun q hq => ?_), _, rfl, ⟨hi, ⟨some (.int (i : Int) t), some (.ref wa), funext fun y => ?_⟩, sl2, rfl, hS2, fun q hq r hr => ap3 q hq r (.tail _ hr)⟩, fun q hq => ?_⟩
      · rcases List.mem_cons.mp hq with rfl | hq
        · exact List.mem_append_right _ (.head _)
        rcases List.mem_cons.mp hq with rfl | hq
        · exact List.mem_append_right _ (.tail _ (.head _))
        rcases List.mem_append.mp hq with hq | hq
        · exact List.mem_append_left _ hq
        · exact List.mem_append_right _ (.tail _ (.tail _ hq))
      · by_cases e1 : y = Str.ofString "predecessors"
        · subst e1; rfl
        by_cases e2 : y = Str.ofString "node"
        · subst e2; rfl
        simp [e1, e2]
      · rcases List.mem_cons.mp hq with rfl | hq
        · exact hI _ (.head _)
        rcases List.mem_append.mp hq with hq | hq
        · exact ap3 q hq _ (.head _)
        · exact hI q (.tail _ (List.mem_append_right _ hq))
  · intro g' m' led h tk' hP1 Sl B' F' N'; refine hideG fun G0 k0 => ?_; obtain ⟨_, ⟨v1, v2, rfl⟩, sl, rfl, hSl, hap⟩ := hP1; refine k0 ?_; clear k0 G0
    dsimp only
    k_steps
    refine hQ1 _ _ ?_
    show BodyQ g L envs s _ .next _
    rw [hW.len, hws] at hSl
    exact ⟨g', _, _, h, _, rfl, Sl, F', news_sub N' (fun q hq => .tail _ hq), rfl, sl, rfl, hSl, fun q hq r hr => hap q hq r (.tail _ hr)⟩
end
end Mine
end

section
open PySem PySem.Spec PySem.Calls PySem.W PyProof.Rows PyProof.Rows.LCg PySem.SeqAt
set_option Elab.async false
set_option maxRecDepth 100000
set_option maxHeartbeats 2000000
set_option linter.unusedVariables false
namespace Mine
noncomputable def pushH : List Int → Int → List Int
  | [], x => [x]
  | [a], x => if x < a then [x, a] else [a, x]
  | [a, b], x => if x < a then [x, b, a] else [a, b, x]
  | [a, b, c], x => if x < b then (if x < a then [x, a, c, b] else [a, x, c, b]) else [a, b, c, x]
  | l, x => l ++ [x]
noncomputable def popH : List Int → Int × List Int
  | [a] => (a, [])
  | [a, b] => (a, [b])
  | [a, b, c] => (a, if c < b then [c, b] else [b, c])
  | [a, b, c, e] => (a, if b < c then (if e < b then [e, b, c] else [b, e, c]) else (if e < c then [e, b, c] else [c, b, e]))
  | l => (0, l)
end Mine
end

section
open PySem PySem.Spec PySem.Calls PySem.W PyProof.Rows PyProof.Rows.LCg PySem.SeqAt
set_option Elab.async false
set_option maxRecDepth 100000
set_option maxHeartbeats 200000
set_option linter.unusedVariables false
namespace Mine
noncomputable def extN (j : Nat) (u : List Int) : List (List Int) := ((List.range j).filter fun (k : Nat) => !decide ((k : Int) ∈ u)).map fun (k : Nat) => u ++ [(k : Int)]
noncomputable def nestsN : Nat → List (List Int)
  | 0 => [[]]
  | n + 1 => (nestsN n).flatMap (extN 4)
inductive NL (led : List (Addr × Obj)) : List Value → List (List Int) → Prop
  | nil : NL led [] []
  | snoc {vs : List Value} {ws : List (List Int)} {a : Addr} {us : List Value} {u : List Int} {k : Nat} : NL led vs ws → (a, W.listOf us.toArray k) ∈ led → IntsAre us u → NL led (vs ++ [.ref a]) (ws ++ [u])
theorem NL.mono {l l' : List (Addr × Obj)} (h : ∀ q ∈ l, q ∈ l') {vs : List Value} {ws : List (List Int)} (hn : NL l vs ws) : NL l' vs ws := by
  induction hn with
  | nil => exact .nil
  | snoc r m i ih => exact .snoc ih (h _ m) i
theorem NL.len {l : List (Addr × Obj)} {vs : List Value} {ws : List (List Int)} (h : NL l vs ws) : vs.length = ws.length := by
  induction h with
  | nil => rfl
  | snoc r _ _ ih => rw [List.length_append, List.length_append, ih]; rfl
theorem NL.at {l : List (Addr × Obj)} : ∀ {vs : List Value} {ws : List (List Int)}, NL l vs ws → ∀ {i : Nat} {v : Value}, vs[i]? = some v → ∃ a us k u, v = .ref a ∧ (a, W.listOf us.toArray k) ∈ l ∧ IntsAre us u ∧ ws[i]? = some u
  | _, _, .nil, i, v, h => by simp at h
  | _, _, .snoc (vs := vs) (ws := ws) r m hi, i, v, h => by
    by_cases e : i < vs.length
    · rw [List.getElem?_append_left e] at h
      refine hideG fun G0 k0 => ?_; obtain ⟨a, us, k, u, h1, h2, h3, h4⟩ := NL.at r h; refine k0 ?_; clear k0 G0
      exact ⟨a, us, k, u, h1, h2, h3, by rw [List.getElem?_append_left (by rw [← r.len]; exact e)]; exact h4⟩
    · have e' : i = vs.length := by
        rcases Nat.lt_or_ge i (vs ++ [Value.ref _]).length with q | q
        · simp only [List.length_append, List.length_singleton] at q; omega
        · rw [List.getElem?_eq_none q] at h; cases h
      subst e'
      simp at h
      refine ⟨_, _, _, _, h.symm, m, hi, ?_⟩
      rw [r.len]; simp
theorem allLt_mem {d : Nat} {l : List (Addr × Obj)} (h : AllLt d l) : ∀ q ∈ l, @LT.lt Nat _ q.1 d := by
  induction l with
  | nil => intro q hq; cases hq
  | cons p r ih =>
    intro q hq
    revert q; refine all_cons (h.1) ?_; intro q hq; exact ih h.2 q hq
theorem extN_succ (j : Nat) (u : List Int) : extN (j + 1) u = extN j u ++ if (j : Int) ∈ u then [] else [u ++ [(j : Int)]] := by
  unfold extN
  rw [range_filter_succ, List.map_append]
  congr 1
  by_cases h : (j : Int) ∈ u
  · rw [if_pos h, if_neg (by rw [decide_eq_true h]; decide)]; rfl
  · rw [if_neg h, if_pos (by rw [decide_eq_false h]; decide)]; rfl
theorem nests_len (i : Nat) (h : i < 5) : (nestsN i).length ≤ 24 := by
  have key : ∀ i < 5, (nestsN i).length ≤ 24 := by decide +kernel
  exact key i h
noncomputable def offL (I : Addr) (l : List (Addr × Obj)) : List (Addr × Obj) := l.filter fun q => !decide (q.1 = I)
theorem mem_offL {I : Addr} {l : List (Addr × Obj)} {q : Addr × Obj} : q ∈ offL I l ↔ q ∈ l ∧ q.1 ≠ I := by simp [offL, List.mem_filter]
theorem nests_ulen {i k : Nat} {u : List Int} (hi : i < 5) (h : (nestsN i)[k]? = some u) : u.length ≤ 4 := by
  have key : ∀ i < 5, ∀ v ∈ nestsN i, v.length ≤ 4 := by decide +kernel
  exact key i hi u (List.mem_of_getElem? h)
end Mine
end

section
open PySem PySem.Spec PySem.Calls PySem.W PyProof.Rows
set_option Elab.async false
set_option maxRecDepth 100000
set_option maxHeartbeats 8000000
namespace Mine
inductive ArmAt (g : Heap) (L : Addr) (s : Shared) (la f : Addr) (ola : Obj) (l : List (Addr × Obj)) (as : List Int) (a : Int) : Shared → Prop
  | mk (lr : Addr) (vs : List Value) (t : Tok) (h : Heap) (tk : Nat) (hv : IntsAre vs as) (F : Fr g L h (fun y => if y = Str.ofString "rest" then some (.ref lr) else if y = Str.ofString "arm" then some (.int a t) else [(Str.ofString "arms", .ref la), (Str.ofString "fault", .ref f)].reverse.lookup y))
    (N : News g L h ((lr, W.listOf vs.toArray 0) :: (la, ola) :: l)) (ne : @Ne Nat la lr) : ArmAt g L s la f ola l as a { s with heap := h, toks := tk }
section
variable {w : World} {base : Heap} {p : Program} {loose : List Str} {mean : ExcName → Option Value} {mg mb : Str → Option Value}

section
theorem taker0 (X : (k0.heap_1 w.params).In base) (T : Top p loose mean mg mb base) (la f : Addr) (n : Nat) (l : List (Addr × Obj)) (j : Nat) (hj : j < 10) (hx : ExL f (.ref (clsA j)) l) :
    Con w base 325 [.ref la, .ref f] 1 ((la, W.listOf #[] n) :: l) (TkPost la (W.listOf #[] n) f j (taker [] j)) (TkRs la (W.listOf #[] n) f j (taker [] j)) := by
  k_with_none
  k_with "exec Raise some none" => k_dflt (refine' tk0_end ?hj ?B ?F ?N ?X ?m2 ?m3 ?hx ?hv ?h1 ?h2 ?h3; (case hj => assumption); (case B => assumption); (case F => k_asm); (case N => k_asm); (case X => assumption); (case m2 => k_mem); (case m3 => exact fun q hq => .tail _ (.tail _ hq)); (case hx => assumption); (case hv => exact rfl); (case h1 => intro vs h; cases h); (case h2 => exact rfl); (case h3 => exact rfl))
  refine' Con.of (binds := [(Str.ofString "arms", .ref la), (Str.ofString "fault", .ref f)]) X T ?ho ?hcd ?hb ?hl ?h ?c2 ?c3 ?c4 ?c5
  k_dflt ((case ho => k_is); (case hcd => k_is); (case hb => exact fun _ => BindsTo.of_eq rfl); (case hl => exact locs rfl); (case c2 => exact rfl); (case c3 => exact rfl); (case c4 => exact rfl); (case c5 => decide))
  intro dp envs gd un s g L h₁ tk hdp hun B Xg Tg F N hlt
  try k_fold
  k_steps
end


noncomputable abbrev tkScope : Scope := { kind := .function, names := [(Str.ofString "arms", .local), (Str.ofString "fault", .local), (Str.ofString "rest", .local), (Str.ofString "arm", .local), (Str.ofString "_law_taker", .globalImplicit), (Str.ofString "SMTPException", .globalImplicit), (Str.ofString "SMTPResponseException", .globalImplicit), (Str.ofString "SMTPSenderRefused", .globalImplicit), (Str.ofString "SMTPDataError", .globalImplicit), (Str.ofString "SMTPRecipientsRefused", .globalImplicit), (Str.ofString "SMTPServerDisconnected", .globalImplicit), (Str.ofString "SMTPNotSupportedError", .globalImplicit), (Str.ofString "SMTPConnectError", .globalImplicit), (Str.ofString "SMTPHeloError", .globalImplicit), (Str.ofString "SMTPAuthenticationError", .globalImplicit)], isGenerator := false, isCoroutine := false }
noncomputable abbrev tkEnv (L : Addr) : Env := envOf (Str.ofString "_law_taker") tkScope L 325 (.ref 324)
noncomputable abbrev tkM (lr la f : Addr) (a : Int) (t : Tok) : Str → Option Value := fun y => if y = Str.ofString "rest" then some (.ref lr) else if y = Str.ofString "arm" then some (.int a t) else [(Str.ofString "arms", .ref la), (Str.ofString "fault", .ref f)].reverse.lookup y
theorem arm_if {A : Around} {g h : Heap} {L lr la f : Addr} {a iz : Int} {t : Tok} {s : Shared} {tk : Nat} {news : List (Addr × Obj)} {Q : Flow → Shared → Prop} {E : Value → Shared → Prop} {q1 q2 q3 q4 : Pos} {k : Nat} {body : List Stmt}
    (F : Fr g L h (tkM lr la f a t)) (N : News g L h news)
    (h1 : a = iz → ∀ tk', wpAny (model PySem.Challenge.rw_ny0334_01.prog w) A (execs body (tkEnv L)) Q E { s with heap := h, toks := tk' })
    (h2 : ¬ a = iz → ∀ tk', Q .next { s with heap := h, toks := tk' }) :
    wpAny (model PySem.Challenge.rw_ny0334_01.prog w) A (exec (.If (.Compare (.Name (Str.ofString "arm") q1) [.Eq] [.Constant (.int iz) k q2] q3) body [] q4) (tkEnv L)) Q E { s with heap := h, toks := tk } := by
  k_with_none
  k_steps
  · exact h1 (by assumption) _
  · exact h2 (by assumption) _
theorem arm_last (X : (k0.heap_1 w.params).In base) (T : Top p loose mean mg mb base) {dp un : Nat} {gd : Option (List Code)} {envs : List Env} {s : Shared} {g h : Heap} {L la lr f : Addr} {ola olr : Obj} {l : List (Addr × Obj)} {tk d j i : Nat} {as : List Int} {a iz : Int} {t : Tok} {cn : Str} {p1 p2 p3 p4 p5 p6 p7 p8 p9 p10 : Pos} {k : Nat} {Q : Flow → Shared → Prop} {E : Value → Shared → Prop}
    (hC : Con w base 325 [.ref lr, .ref f] d ((lr, olr) :: l) (TkPost lr olr f j (taker as j)) (TkRs lr olr f j (taker as j)))
    (hQ : ∀ v s', BodyQ g L envs s (TkPost la ola f j (taker (as ++ [a]) j)) (.ret v) s' → Q (.ret v) s')
    (hE : ∀ e s', BodyE w ((Ar dp envs gd un).deeper (tkEnv L)) (tkEnv L) g L envs s (TkRs la ola f j (taker (as ++ [a]) j)) e s' → E e s')
    (B : Below (Ar dp envs gd un) base envs g) (Xg : (k0.heap_1 w.params).In g) (Tg : Top p loose mean mg mb g) (F : Fr g L h (tkM lr la f a t)) (N : News g L h ((lr, olr) :: (la, ola) :: l)) (ne : @Ne Nat la lr) (hx : ExL f (.ref (clsA j)) l)
    (hd : dp + (d + 1) < recursionLimit) (hu : un + 100 * (d + 1) ≤ 5000) (hnf : ∀ vs, ola.data ≠ .fields vs) (hj : j < 10) (ha : a = iz)
    (hi : i < 10) (hz : iz = (i : Int)) (hn : nsIn (k0.heap_1 w.params) mainGlobals cn = some (some (.ref (clsA i))))
    (hxk : (tkEnv L).kindOf cn = some .globalImplicit) (hdb : (cn == ("__debug__" : Str)) = false) :
    wpAny (model PySem.Challenge.rw_ny0334_01.prog w) ((Ar dp envs gd un).deeper (tkEnv L)) (execs [.Try [.Return (some (.Call (.Name (Str.ofString "_law_taker") p1) [.Name (Str.ofString "rest") p2, .Name (Str.ofString "fault") p3] [] p4)) p5] [.ExceptHandler (some (.Name cn p6)) none [.Return (some (.Constant (.int iz) k p7)) p8] p9] [] [] p10] (tkEnv L)) Q E { s with heap := h, toks := tk } := by
  k_with_none
  k_steps
  refine' arm_step (i := i) (as := as) (as' := as ++ [a]) hC (fun _ s' h => hQ _ s' h) (fun _ s' h => hQ _ s' h) hE hi hj hz ?ha B ?F X T ?N ?m1 ?m2 ?m3 ne hx ?hd ?hu hn hnf ?h2 hxk hdb
  (case ha => rw [ha]); (case F => k_asm); (case N => k_asm); (case m1 => k_mem); (case m2 => k_mem); (case m3 => exact fun q hq => .tail _ (.tail _ hq)); (case hd => omega); (case hu => omega); (case h2 => rfl)
theorem takerS (X : (k0.heap_1 w.params).In base) (T : Top p loose mean mg mb base) (la f : Addr) (n : Nat) (l : List (Addr × Obj)) (j : Nat) (as : List Int) (vs : List Value) (a : Int) (hj : j < 10) (hx : ExL f (.ref (clsA j)) l) (b : 0 ≤ a ∧ a ≤ 9) (hva : IntsAre vs (as ++ [a])) (hn : as.length ≤ 3) (d : Nat)
    (C0 : ∀ lr vs', IntsAre vs' as → Con w base 325 [.ref lr, .ref f] d ((lr, W.listOf vs'.toArray 0) :: l) (TkPost lr (W.listOf vs'.toArray 0) f j (taker as j)) (TkRs lr (W.listOf vs'.toArray 0) f j (taker as j))) :
    Con w base 325 [.ref la, .ref f] (d + 1) ((la, W.listOf vs.toArray n) :: l) (TkPost la (W.listOf vs.toArray n) f j (taker (as ++ [a]) j)) (TkRs la (W.listOf vs.toArray n) f j (taker (as ++ [a]) j)) := by
  k_with_none
  refine' Con.of (binds := [(Str.ofString "arms", .ref la), (Str.ofString "fault", .ref f)]) X T ?ho ?hcd ?hb ?hl ?h ?c2 ?c3 ?c4 ?c5
  k_dflt ((case ho => k_is); (case hcd => k_is); (case hb => exact fun _ => BindsTo.of_eq rfl); (case hl => exact locs rfl); (case c2 => exact rfl); (case c3 => exact rfl); (case c4 => exact rfl); (case c5 => decide))
  intro dp envs gd un s g L h₁ tk hdp hun B Xg Tg F N hlt
  try k_fold
  refine hideQ fun Q1 E1 hQ1 hE1 => ?_
  refine seq_cut2 (ArmAt g L s la f (W.listOf vs.toArray n) l as a) ?_ ?_
  · clear hQ1 hE1 C0
    have hln : vs.length ≤ 4 := by rw [hva.length, List.length_append]; exact Nat.succ_le_succ hn
    k_steps
    any_goals exact trivial
    · exact absurd ‹decide (as ++ [a] = []) = true› (by simp)
    · rename_i F9 N9
      have hI := ‹IntsAre _ (List.take ((as ++ [a]).length - 1) (as ++ [a]))›
      rw [List.length_append, List.length_singleton, Nat.add_sub_cancel, List.take_left] at hI
      exact .mk _ _ _ _ _ hI F9 (news_sub N9 (sub_cons (.tail _ (.head _)) (sub_cons (.tail _ (.tail _ (.tail _ (.head _)))) (fun q hq => .tail _ (.tail _ (.tail _ (.tail _ hq))))))) (by omega)
  · rintro s' ⟨lr, vs2, t2, h2, tk2, hv2, F2, N2, ne⟩
    clear F N hn hva
    have hnf : ∀ vs_1, (W.listOf vs.toArray n).data ≠ .fields vs_1 := fun _ h => nomatch h
    have hC := C0 lr vs2 hv2
    clear C0
    refine wpAny_execs_cons (arm_if F2 N2 (fun e tk' => arm_last (i := 0) X T hC (fun _ s' h => hQ1 _ s' h) hE1 B Xg Tg F2 N2 ne hx hdp hun hnf hj e (by decide) rfl (by k_dflt k_is) rfl (by decide)) fun e0 tk0 => ?_)
    refine wpAny_execs_cons (arm_if F2 N2 (fun e tk' => arm_last (i := 1) X T hC (fun _ s' h => hQ1 _ s' h) hE1 B Xg Tg F2 N2 ne hx hdp hun hnf hj e (by decide) rfl (by k_dflt k_is) rfl (by decide)) fun e1 tk1 => ?_)
    refine wpAny_execs_cons (arm_if F2 N2 (fun e tk' => arm_last (i := 2) X T hC (fun _ s' h => hQ1 _ s' h) hE1 B Xg Tg F2 N2 ne hx hdp hun hnf hj e (by decide) rfl (by k_dflt k_is) rfl (by decide)) fun e2 tk2 => ?_)
    refine wpAny_execs_cons (arm_if F2 N2 (fun e tk' => arm_last (i := 3) X T hC (fun _ s' h => hQ1 _ s' h) hE1 B Xg Tg F2 N2 ne hx hdp hun hnf hj e (by decide) rfl (by k_dflt k_is) rfl (by decide)) fun e3 tk3 => ?_)
    refine wpAny_execs_cons (arm_if F2 N2 (fun e tk' => arm_last (i := 4) X T hC (fun _ s' h => hQ1 _ s' h) hE1 B Xg Tg F2 N2 ne hx hdp hun hnf hj e (by decide) rfl (by k_dflt k_is) rfl (by decide)) fun e4 tk4 => ?_)
    refine wpAny_execs_cons (arm_if F2 N2 (fun e tk' => arm_last (i := 5) X T hC (fun _ s' h => hQ1 _ s' h) hE1 B Xg Tg F2 N2 ne hx hdp hun hnf hj e (by decide) rfl (by k_dflt k_is) rfl (by decide)) fun e5 tk5 => ?_)
    refine wpAny_execs_cons (arm_if F2 N2 (fun e tk' => arm_last (i := 6) X T hC (fun _ s' h => hQ1 _ s' h) hE1 B Xg Tg F2 N2 ne hx hdp hun hnf hj e (by decide) rfl (by k_dflt k_is) rfl (by decide)) fun e6 tk6 => ?_)
    refine wpAny_execs_cons (arm_if F2 N2 (fun e tk' => arm_last (i := 7) X T hC (fun _ s' h => hQ1 _ s' h) hE1 B Xg Tg F2 N2 ne hx hdp hun hnf hj e (by decide) rfl (by k_dflt k_is) rfl (by decide)) fun e7 tk7 => ?_)
    refine wpAny_execs_cons (arm_if F2 N2 (fun e tk' => arm_last (i := 8) X T hC (fun _ s' h => hQ1 _ s' h) hE1 B Xg Tg F2 N2 ne hx hdp hun hnf hj e (by decide) rfl (by k_dflt k_is) rfl (by decide)) fun e8 tk8 => ?_)
    exact arm_last (i := 9) X T hC (fun _ s' h => hQ1 _ s' h) hE1 B Xg Tg F2 N2 ne hx hdp hun hnf hj (nine b e0 e1 e2 e3 e4 e5 e6 e7 e8) (by decide) rfl (by k_dflt k_is) rfl (by decide)
theorem taker_all (X : (k0.heap_1 w.params).In base) (T : Top p loose mean mg mb base) (f : Addr) (l : List (Addr × Obj)) (j : Nat) (hj : j < 10) (hx : ExL f (.ref (clsA j)) l) : ∀ (k : Nat) (as : List Int), as.length = k → k ≤ 4 → (∀ a ∈ as, 0 ≤ a ∧ a ≤ 9) → ∀ (la : Addr) (n : Nat) (vs : List Value), IntsAre vs as →
    Con w base 325 [.ref la, .ref f] (k + 1) ((la, W.listOf vs.toArray n) :: l) (TkPost la (W.listOf vs.toArray n) f j (taker as j)) (TkRs la (W.listOf vs.toArray n) f j (taker as j)) := by
  intro k
  induction k with
  | zero =>
    intro as e _ _ la n vs hv
    cases as with
    | nil => cases hv; exact taker0 X T la f n l j hj hx
    | cons a as => cases e
  | succ k ih =>
    intro as e hk hr la n vs hv
    have hne : as ≠ [] := fun h => by rw [h] at e; cases e
    have ea := List.dropLast_concat_getLast hne
    rw [← ea] at hv hr ⊢
    have el : as.dropLast.length = k := by rw [List.length_dropLast, e]; rfl
    exact takerS X T la f n l j as.dropLast vs (as.getLast hne) hj hx (hr _ (List.mem_append_right _ (.head _))) hv (by omega) (k + 1) fun lr vs' h => ih _ el (Nat.le_of_succ_le hk) (fun a ha => hr a (List.mem_append_left _ ha)) lr 0 vs' h
theorem taker2 (X : (k0.heap_1 w.params).In base) (T : Top p loose mean mg mb base) (la f : Addr) (n : Nat) (l : List (Addr × Obj)) (j : Nat) (a1 a2 : Int) (t1 t2 : Tok) (hj : j < 10) (hx : ExL f (.ref (clsA j)) l) (b1 : 0 ≤ a1 ∧ a1 ≤ 9) (b2 : 0 ≤ a2 ∧ a2 ≤ 9) :
    Con w base 325 [.ref la, .ref f] 3 ((la, W.listOf #[.int a1 t1, .int a2 t2] n) :: l) (TkPost la (W.listOf #[.int a1 t1, .int a2 t2] n) f j (taker [a1, a2] j)) (TkRs la (W.listOf #[.int a1 t1, .int a2 t2] n) f j (taker [a1, a2] j)) :=
  taker_all X T f l j hj hx 2 [a1, a2] rfl (by decide) (List.forall_mem_cons.mpr ⟨b1, List.forall_mem_cons.mpr ⟨b2, fun _ h => nomatch h⟩⟩) la n [.int a1 t1, .int a2 t2] (.cons _ _ (.cons _ _ .nil))
theorem taker4 (X : (k0.heap_1 w.params).In base) (T : Top p loose mean mg mb base) (la f : Addr) (n : Nat) (l : List (Addr × Obj)) (j : Nat) (a1 a2 a3 a4 : Int) (t1 t2 t3 t4 : Tok) (hj : j < 10) (hx : ExL f (.ref (clsA j)) l) (b1 : 0 ≤ a1 ∧ a1 ≤ 9) (b2 : 0 ≤ a2 ∧ a2 ≤ 9) (b3 : 0 ≤ a3 ∧ a3 ≤ 9) (b4 : 0 ≤ a4 ∧ a4 ≤ 9) :
    Con w base 325 [.ref la, .ref f] 5 ((la, W.listOf #[.int a1 t1, .int a2 t2, .int a3 t3, .int a4 t4] n) :: l) (TkPost la (W.listOf #[.int a1 t1, .int a2 t2, .int a3 t3, .int a4 t4] n) f j (taker [a1, a2, a3, a4] j)) (TkRs la (W.listOf #[.int a1 t1, .int a2 t2, .int a3 t3, .int a4 t4] n) f j (taker [a1, a2, a3, a4] j)) :=
  taker_all X T f l j hj hx 4 [a1, a2, a3, a4] rfl (by decide) (List.forall_mem_cons.mpr ⟨b1, List.forall_mem_cons.mpr ⟨b2, List.forall_mem_cons.mpr ⟨b3, List.forall_mem_cons.mpr ⟨b4, fun _ h => nomatch h⟩⟩⟩⟩) la n [.int a1 t1, .int a2 t2, .int a3 t3, .int a4 t4] (.cons _ _ (.cons _ _ (.cons _ _ (.cons _ _ .nil))))
end
end Mine
end

section
open PySem PySem.Spec PySem.Calls PySem.W PyProof.Rows PyProof.Rows.LCg
set_option Elab.async false
set_option maxRecDepth 100000
set_option maxHeartbeats 8000000
set_option linter.unusedVariables false
namespace Mine

noncomputable def Errs (fs : Nat → Addr) (led : List (Addr × Obj)) : Prop :=
  ∃ ls : Nat → List (Addr × Obj), (∀ j < 10, ExL (fs j) (.ref (clsA j)) (ls j)) ∧ (∀ i j, i < 10 → j < 10 → i ≠ j → ∀ p ∈ ls i, ∀ q ∈ ls j, p.1 ≠ q.1) ∧ ∀ q, q ∈ led ↔ ∃ j, j < 10 ∧ q ∈ ls j

theorem Errs.split {fs : Nat → Addr} {led : List (Addr × Obj)} (H : Errs fs led) {j : Nat} (hj : j < 10) :
    ∃ l rest, ExL (fs j) (.ref (clsA j)) l ∧ (∀ q ∈ l, q ∈ led) ∧ (∀ q ∈ rest, q ∈ led ∧ q.1 ∉ l.map (·.1)) ∧ ∀ l', ExL (fs j) (.ref (clsA j)) l' → (∀ p ∈ l', ∀ q ∈ rest, p.1 ≠ q.1) → Errs fs (l' ++ rest) := by
  refine hideG fun G0 k0 => ?_; obtain ⟨ls, hx, hap, hm⟩ := H; refine k0 ?_; clear k0 G0
  refine ⟨ls j, led.filter fun q => decide (q.1 ∉ (ls j).map (·.1)), hx j hj, fun q hq => (hm q).mpr ⟨j, hj, hq⟩, fun q hq => ?_, fun l' hx' hap' => ?_⟩
  · have := List.mem_filter.mp hq
    exact ⟨this.1, by simpa using this.2⟩
  · have mem : ∀ q, q ∈ (led.filter fun q => decide (q.1 ∉ (ls j).map (·.1))) ↔ ∃ i, i < 10 ∧ i ≠ j ∧ q ∈ ls i := fun q => by
      rw [List.mem_filter, hm]
      constructor
      · intro hP1; refine hideG fun G0 k0 => ?_; obtain ⟨⟨i, hi, hq⟩, hn⟩ := hP1; refine k0 ?_; clear k0 G0
        refine ⟨i, hi, fun e => ?_, hq⟩
        subst e
        have : q.1 ∉ (ls i).map (·.1) := by simpa using hn
        exact this (List.mem_map_of_mem hq)
      · intro hP1; refine hideG fun G0 k0 => ?_; obtain ⟨i, hi, hij, hq⟩ := hP1; refine k0 ?_; clear k0 G0
        refine ⟨⟨i, hi, hq⟩, ?_⟩
        have : q.1 ∉ (ls j).map (·.1) := fun hm' => by
          refine hideG fun G0 k0 => ?_; obtain ⟨r, hr, e⟩ := List.mem_map.mp hm'; refine k0 ?_; clear k0 G0
          exact hap j i hj hi (Ne.symm hij) r hr q hq e
        simpa using this
    refine ⟨fun i => if i = j then l' else ls i, fun i hi => ?_, fun i k hi hk hik p hp q hq => ?_, fun q => ?_⟩
    · by_cases e : i = j
      · subst e; simpa using hx'
      · simpa [e] using hx i hi
    · by_cases e : i = j
      · subst e
        have hk' : k ≠ i := Ne.symm hik
        simp only [if_true] at hp
        simp only [hk', if_false] at hq
        exact hap' p hp q ((mem q).mpr ⟨k, hk, hk', hq⟩)
      · simp only [e, if_false] at hp
        by_cases e' : k = j
        · subst e'
          simp only [if_true] at hq
          exact Ne.symm (hap' q hq p ((mem p).mpr ⟨i, hi, e, hp⟩))
        · simp only [e', if_false] at hq
          exact hap i k hi hk hik p hp q hq
    · rw [List.mem_append, mem]
      constructor
      · rintro (h | ⟨i, hi, hij, hq⟩)
        · exact ⟨j, hj, by simpa using h⟩
        · exact ⟨i, hi, by simpa [hij] using hq⟩
      · intro hP1; refine hideG fun G0 k0 => ?_; obtain ⟨i, hi, hq⟩ := hP1; refine k0 ?_; clear k0 G0
        by_cases e : i = j
        · subst e; exact .inl (by simpa using hq)
        · exact .inr ⟨i, hi, e, by simpa [e] using hq⟩

theorem Errs.fields {fs : Nat → Addr} {led : List (Addr × Obj)} (H : Errs fs led) : ∀ q ∈ led, ∃ vs, q.2.data = .fields vs := fun q hq => by
  refine hideG fun G0 k0 => ?_; obtain ⟨ls, hx, _, hm⟩ := H; refine k0 ?_; clear k0 G0
  refine hideG fun G0 k0 => ?_; obtain ⟨j, hj, hq⟩ := (hm q).mp hq; refine k0 ?_; clear k0 G0
  exact (hx j hj).fields q hq
theorem Errs.ne {fs : Nat → Addr} {led news : List (Addr × Obj)} {g h : Heap} {L a : Addr} {o : Obj} (H : Errs fs led) (N : News g L h news) (m3 : ∀ q ∈ led, q ∈ news) (m1 : (a, o) ∈ news) (hd : ∀ vs, o.data ≠ .fields vs) : ∀ q ∈ led, q.1 ≠ a := fun q hq e => by
  obtain ⟨vs, hv⟩ := H.fields q hq
  have e1 := (N q (m3 q hq)).1
  have e2 := (N _ m1).1
  rw [e, e2] at e1
  cases e1
  exact hd vs hv

noncomputable abbrev errArr (fs : Nat → Addr) : Array Value := #[.ref (fs 0), .ref (fs 1), .ref (fs 2), .ref (fs 3), .ref (fs 4), .ref (fs 5), .ref (fs 6), .ref (fs 7), .ref (fs 8), .ref (fs 9)]
theorem errArr_at (fs : Nat → Addr) {a : Int} (h : 0 ≤ a ∧ a ≤ 9) : (errArr fs)[a.toNat]? = some (.ref (fs a.toNat)) := by
  exact all10 (P := fun j => (errArr fs)[j]? = some (.ref (fs j))) rfl rfl rfl rfl rfl rfl rfl rfl rfl rfl a.toNat (by omega)

noncomputable def own (arms : List Int) : Bool := arms.all fun a => taker arms a.toNat == some a
end Mine
end

section
open PySem PySem.Spec PySem.Calls PySem.W PyProof.Rows PyProof.Rows.LCg
set_option Elab.async false
set_option maxRecDepth 100000
set_option maxHeartbeats 8000000
set_option linter.unusedVariables false
namespace Mine
section
variable {w : World} {base g h : Heap} {dp un : Nat} {gd : Option (List Code)} {envs : List Env} {s : Shared} {L la : Addr} {ola : Obj} {led news others : List (Addr × Obj)} {m : Str → Option Value} {tk d j : Nat} {fs : Nat → Addr} {env : Env} {Q E : Value → Shared → Prop} {a : Int} {r : Option Int}
theorem taker_use (C : ∀ l, ExL (fs j) (.ref (clsA j)) l → Con w base 325 [.ref la, .ref (fs j)] d ((la, ola) :: l) (TkPost la ola (fs j) j r) (TkRs la ola (fs j) j r)) (hr : r = some a) (hj : j < 10) (hx : Errs fs led)
    (B : Below (Ar dp envs gd un) base envs g) (F : Fr g L h m) (N : News g L h news) (m1 : (la, ola) ∈ news) (m3 : ∀ q ∈ led, q ∈ news) (hda : ∀ vs, ola.data ≠ .fields vs) (mo : ∀ q ∈ others, q ∈ news ∧ q.1 ≠ la ∧ ∀ p ∈ led, p.1 ≠ q.1)
    (hf : env.frame = some L) (hk : env.scope.kind = .function) (hd : dp + 1 + d < recursionLimit) (hu : un + 3 + 100 * d ≤ 5000)
    (hQ : ∀ t led' g1 h1 tk1, Errs fs led' → Slid (fra envs) g g1 → Below (Ar dp envs gd un) base envs g1 → Fr g1 L h1 m → News g1 L h1 ((la, ola) :: (others ++ led')) → (∀ q ∈ led', q.1 ≠ la ∧ ∀ p ∈ others, q.1 ≠ p.1) → Q (.int a t) { s with heap := h1, toks := tk1 }) :
    Here (wpAny (MG w) ((Ar dp envs gd un).deeper env) (call (.ref 325) [.ref la, .ref (fs j)]) Q E { s with heap := h, toks := tk }) := by
  have n1 := hx.ne N m3 m1 hda
  refine hideG fun G0 k0 => ?_; obtain ⟨l, rest, x, hl, hrest, back⟩ := hx.split hj; refine k0 ?_; clear k0 G0
  refine Con.use (env := env) (rest := others ++ rest) (C l x) B F N hf hk hd hu (fun q hq => ?_) (fun q hq => ?_) ?_ ?_
  · revert q; refine all_cons (m1) ?_; intro q hq; exact m3 q (hl q hq)
  · rcases List.mem_append.mp hq with hq | hq
    · refine hideG fun G0 k0 => ?_; obtain ⟨q1, q2, q3⟩ := mo q hq; refine k0 ?_; clear k0 G0
      refine ⟨q1, fun hm => ?_⟩
      rcases List.mem_cons.mp hm with e | hm
      · exact q2 e
      · refine hideG fun G0 k0 => ?_; obtain ⟨p, hp, e⟩ := List.mem_map.mp hm; refine k0 ?_; clear k0 G0
        exact q3 p (hl p hp) e
    · obtain ⟨q1, q2⟩ := hrest q hq
      refine ⟨m3 q q1, fun hm => ?_⟩
      rcases List.mem_cons.mp hm with e | hm
      · exact n1 q q1 e
      · exact q2 hm
  · intro v led1 g1 h1 tk1 hP1 S B1 F1 N1 ap; refine hideG fun G0 k0 => ?_; obtain ⟨a', t, l', e1, eq1, eq2, x1⟩ := hP1; refine k0 ?_; clear k0 G0; subst eq1; subst eq2
    rw [hr] at e1; cases e1
    have back' := back l' x1 fun p hp q hq => ap p (.tail _ hp) q (List.mem_append_right _ hq)
    refine hQ t (l' ++ rest) g1 h1 tk1 back' S B1 F1 (news_sub N1 fun q hq => ?_) fun q hq => ?_
    · simp only [List.mem_cons, List.mem_append] at hq ⊢
      rcases hq with e | e | e | e
      · exact .inl (.inl e)
      · exact .inr (.inl e)
      · exact .inl (.inr e)
      · exact .inr (.inr e)
    · rcases List.mem_append.mp hq with hq | hq
      · refine ⟨?_, fun p hp => ap q (.tail _ hq) p (List.mem_append_left _ hp)⟩
        intro e
        have e1 := (N1 q (List.mem_append_left _ (.tail _ hq))).1
        have e2 := (N1 (la, ola) (List.mem_append_left _ (.head _))).1
        rw [e, e2] at e1
        cases e1
        obtain ⟨vs, hv⟩ := x1.fields q hq
        exact hda vs hv
      · exact ⟨n1 q (hrest q hq).1, fun p hp => fun e => (mo p hp).2.2 q (hrest q hq).1 e⟩
  · rintro e led1 g1 h1 tk1 ⟨e1, _⟩
    rw [hr] at e1; cases e1
end
end Mine
end

section
open PySem PySem.Spec PySem.Calls PySem.W PyProof.Rows PyProof.Rows.LCg PySem.SeqAt
set_option Elab.async false
set_option maxRecDepth 100000
set_option maxHeartbeats 8000000
set_option linter.unusedVariables false
namespace Mine
noncomputable def widerOf (a : Int) : List Int := (if a = 0 then [] else [0]) ++ (if a ∈ [(2 : Int), 3, 7, 8, 9] then [1] else [])
noncomputable def noWiderAt (arms : List Int) (i : Nat) : Bool := ((arms.take i).filter fun a => decide (a ∈ widerOf (arms.getD i 0))) == []
noncomputable def noWider (arms : List Int) : Bool := (List.range 4).all (noWiderAt arms)
theorem nw_absurd {b : Int} (h1 : b = 0) (h2 : ([(2 : Int), 3, 7, 8, 9].any fun x => x == b) = true) : False := by subst h1; simp at h2
theorem nw_len (l : List Int) {i : Nat} (hi : i < 4) : (l.take ((0 : Int) + (i : Int)).toNat).length ≤ sizeLine := by
  have h1 : ((0 : Int) + (i : Int)).toNat ≤ 4 := by omega
  exact Nat.le_trans (List.length_take_le _ _) (Nat.le_trans h1 (by decide))
theorem wider0 {b : Int} (h1 : b = 0) (h2 : ([(2 : Int), 3, 7, 8, 9].any fun x => x == b) = false) : widerOf b = [] := by subst h1; rfl
theorem wider1 {b : Int} (h1 : b ≠ 0) (h2 : ([(2 : Int), 3, 7, 8, 9].any fun x => x == b) = false) : widerOf b = [0] := by
  rw [any_mem] at h2
  unfold widerOf
  rw [if_neg h1, if_neg (by simpa using h2)]; rfl
theorem wider2 {b : Int} (h1 : b ≠ 0) (h2 : ([(2 : Int), 3, 7, 8, 9].any fun x => x == b) = true) : widerOf b = [0, 1] := by
  rw [any_mem] at h2
  unfold widerOf
  rw [if_neg h1, if_pos (by simpa using h2)]; rfl
theorem nw_at {l ms : List Int} {i : Nat} {b : Bool} (hw : widerOf (l.getD ((0 : Int) + (i : Int)).toNat 0) = ms) (h : decide ((l.take ((0 : Int) + (i : Int)).toNat).filter (fun a => decide (a ∈ ms)) = []) = b) : noWiderAt l i = b := by
  have e := zn i
  rw [e] at hw h
  unfold noWiderAt
  rw [hw, ← h]
  cases ((l.take i).filter (fun a => decide (a ∈ ms))) <;> rfl
theorem nw_false {l : List Int} {i : Nat} (hi : i < 4) (h : noWiderAt l i = false) : noWider l = false := by
  unfold noWider
  rw [← Bool.not_eq_true]
  intro ht
  have := List.all_eq_true.mp ht i (List.mem_range.mpr hi)
  rw [h] at this; cases this
theorem nw_succ {l : List Int} {i : Nat} (hall : (List.range i).all (noWiderAt l) = true) (h : noWiderAt l i = true) : (List.range (i + 1)).all (noWiderAt l) = true := by
  rw [List.range_succ, List.all_append, hall]; simp [h]
section
variable {w : World} {base : Heap} {p : Program} {loose : List Str} {mean : ExcName → Option Value} {mg mb : Str → Option Value}
theorem nw_con (X : (k0.heap_1 w.params).In base) (T : Top p loose mean mg mb base) (la : Addr) (n : Nat) (a1 a2 a3 a4 : Int) (t1 t2 t3 t4 : Tok) :
    Con w base 347 [.ref la] 1 [(la, W.listOf #[.int a1 t1, .int a2 t2, .int a3 t3, .int a4 t4] n)] (fun v l => v = .bool (noWider [a1, a2, a3, a4]) ∧ l = [(la, W.listOf #[.int a1 t1, .int a2 t2, .int a3 t3, .int a4 t4] n)]) (fun _ _ => False) := by
  k_with_none
  k_with "walk1" => first | (with_reducible refine Nx.next (by assumption) _ ?_; (try clear hN); (try clear Qc)) | (with_reducible refine Nx.ret (by assumption) ?_; (try clear hN); (try clear Qc)) | (with_reducible refine Nx.brk (by assumption) ?_; (try clear hN); (try clear Qc)) | (with_reducible refine Nx.cont (by assumption) ?_; (try clear hN); (try clear Qc))
  k_with "execs cons" => (refine execs_h fun Qc hN => ?_)
  k_with "exec For Name Call cons nil" => refine here ?_
  k_with "eval ListComp" => refine here ?_
  k_with "subscriptTail" => (k_dflt (refine' sub_int ?N ?m ?h0 ?h1 ?hx ?_ ?hs; (case N => k_asm); (case m => k_mem); (case h0 => omega); (case h1 => omega); (case hx => assumption); (case hs => with_unfolding_all rfl); k_whole))
  refine' Con.ofC (binds := [(Str.ofString "arms", .ref la)]) X T ?ho ?hcd ?hb ?hl ?hn ?h ?c2 ?c3 ?c4
  k_dflt ((case ho => k_is); (case hcd => k_is); (case hb => exact fun _ => BindsTo.of_eq rfl); (case hl => exact rfl); (case hn => decide +kernel); (case c2 => exact rfl); (case c3 => exact rfl); (case c4 => exact rfl))
  intro dp envs gd un s g L h₁ tk cells hdp hun B Xg Tg F N Y hlt
  k_cells Y
  simp only [List.cons_append, List.nil_append] at N
  try k_fold
  k_steps
  refine for_E ?_ (fun _ => rfl)
  k_steps
  refine for_L (L := L) (source_range (n := 4) (by rfl) (by assumption) (by assumption) (by assumption) (by decide) (by rfl)) (fun q hq => nomatch hq) (fun i m' l => (∃ o, m' = fun y => if y = Str.ofString "place" then o else if y = Str.ofString "arms" then some (.ref la) else none) ∧ (∃ oc v, oc.data = .cell v ∧ l = [(L + 1, oc), (la, W.listOf #[.int a1 t1, .int a2 t2, .int a3 t3, .int a4 t4] n)]) ∧ (List.range i).all (noWiderAt [a1, a2, a3, a4]) = true) (fun _ _ _ _ q hq => nomatch hq) B ?_ ?_ ?_ rfl rfl rfl
  · refine ⟨⟨none, funext fun y => ?_⟩, ⟨_, _, by assumption, rfl⟩, rfl⟩
    by_cases e : y = Str.ofString "place"
    · subst e; rfl
    · simp [e, bindL]; rfl
  · intro I i v g' m' l o h tk' hi hP1 hP2 Sl B' F' N' hI; refine hideG fun G0 k0 => ?_; obtain ⟨tv, rfl⟩ := hP1; obtain ⟨⟨ov, rfl⟩, ⟨oc, vc, hoc, rfl⟩, hall⟩ := hP2; refine k0 ?_; clear k0 G0
    have Xg := X.keeps B'.stays
    have Tg := T.keeps B'.stays
    have hI1 : @Ne Nat (L + 1) I := hI _ (.head _)
    have hI2 : @Ne Nat la I := hI _ (.tail _ (.head _))
    have hlL : @LT.lt Nat _ la L := hlt _ (.head _)
    have hv : ∃ a ta, #[Value.int a1 t1, .int a2 t2, .int a3 t3, .int a4 t4][((0 : Int) + (i : Int)).toNat]? = some (.int a ta) ∧ [a1, a2, a3, a4].getD i 0 = a := by
      rcases or4 i (by first | assumption | omega) with rfl | rfl | rfl | rfl <;> exact ⟨_, _, rfl, rfl⟩
    refine hideG fun G0 k0 => ?_; obtain ⟨a, ta, hat, hga⟩ := hv; refine k0 ?_; clear k0 G0
    try k_fold
    k_steps
    all_goals try exact (nw_absurd (by assumption) (by assumption)).elim
    all_goals refine ListComp_J (by with_unfolding_all rfl) (by rfl) (by decide) ?_ (fun _ => rfl)
    all_goals k_steps
    all_goals try exact (nw_absurd (by assumption) (by assumption)).elim
    all_goals k_dflt (refine filtIn (L := L) (by exact rfl) (by k_asm) (by k_asm) (by k_mem) (by assumption) (by exact rfl) (by k_mem) (by assumption) (by k_mem) (by first | exact .nil | exact .cons _ _ .nil | exact .cons _ _ (.cons _ _ .nil)) (by exact nw_len _ hi) B' ?_ (by decide) (by exact rfl) (by exact rfl) (by decide) (by exact rfl) (by decide))
    all_goals
      intro ys D g2 h2 tk2 hs S2 B2 F2 N2 off2
      have Xg2 := X.keeps B2.stays
      have Tg2 := T.keeps B2.stays
      clear Xg Tg
      k_steps
    all_goals
      rename_i hdec
      have hnw := nw_at (by first | exact wider0 (by assumption) (by assumption) | exact wider1 (by assumption) (by assumption) | exact wider2 (by assumption) (by assumption)) hdec
      first
      | (show Goes envs g' L _ _ _
         refine ⟨g2, _, (I, o) :: [(L + 1, _), (la, _)], _, _, rfl, S2, by assumption, news_sub (by assumption) (by k_dflt lcg_sub), _, rfl, ⟨⟨some (.int (0 + (i : Int)) tv), ?_⟩, ⟨_, _, by assumption, rfl⟩, nw_succ hall hnw⟩, ?_⟩
         · funext y
           by_cases e : y = Str.ofString "place" <;> simp [e]
         · intro q hq
           rcases List.mem_cons.mp hq with rfl | hq
           · exact hI1
           · rw [List.mem_singleton.mp hq]; exact hI2)
      | (show BodyQ g L envs s _ (.ret (.bool false)) _
         refine ⟨g2, _, [(la, _)], _, _, rfl, Sl.trans S2, by assumption, news_sub (by assumption) (by k_dflt lcg_sub), ?_, rfl⟩
         show Value.bool false = .bool (noWider [a1, a2, a3, a4])
         rw [nw_false hi hnw])
  · intro g' m' l h tk' hP1 Sl B' F' N'; refine hideG fun G0 k0 => ?_; obtain ⟨⟨ov, rfl⟩, ⟨oc, vc, hoc, rfl⟩, hall⟩ := hP1; refine k0 ?_; clear k0 G0
    dsimp only
    k_steps
    show BodyQ g L envs s _ (.ret (.bool true)) _
    refine ⟨g', _, _, h, _, rfl, Sl, F', news_sub N' (fun q hq => .tail _ hq), ?_, rfl⟩
    show Value.bool true = .bool (noWider [a1, a2, a3, a4])
    exact congrArg Value.bool hall.symm
end
end Mine
end

section
open PySem PySem.W PyProof.Rows
set_option maxRecDepth 100000
set_option linter.unusedVariables false
namespace Mine
noncomputable def adv (ns : List Pn) : List (Int × Nat) → Option (Int × List (Int × Nat))
  | [] => none
  | (u, i) :: st => match (suOf ns u)[i]? with
    | some v => some (v, (u, i + 1) :: st)
    | none => adv ns st
noncomputable def dfs (ns : List Pn) : Nat → Int → List (Int × Nat) → List Int → Option (List Int)
  | 0, _, _, _ => none
  | f + 1, v, st, seen =>
    if v ∈ seen then
      if v ∈ st.map (·.1) then none
      else match adv ns st with
        | none => some seen
        | some (v', st') => dfs ns f v' st' seen
    else match adv ns ((v, 0) :: st) with
      | none => some (seen ++ [v])
      | some (v', st') => dfs ns f v' st' (seen ++ [v])
noncomputable def cyc (ns : List Pn) (fuel : Nat) : List Int → List Int → Option (List Int)
  | [], seen => some seen
  | k :: ks, seen => if k ∈ seen then cyc ns fuel ks seen else match dfs ns fuel k [] seen with
    | none => none
    | some seen' => cyc ns fuel ks seen'
noncomputable def prepPs (ns : List Pn) : Ps := { ns := ns, ready := (ns.filter fun q => q.2.1 = 0).map (·.1), p := 0, f := 0 }
noncomputable def barredAt (st : Ps) (sign : Int) (queue : List Int) : List Int := ((List.range 5).map fun (j : Nat) => (j : Int)).filter fun j => !decide (sign * j ∈ queue)
noncomputable def turnPs (sign : Int) (a : Ps × List Int × List Int × List (List Int)) : Ps × List Int × List Int × List (List Int) :=
  let st := readyPs a.1
  let q := a.1.ready.foldl (fun q k => pushH q (sign * k)) a.2.1
  let b := barredAt st sign q
  let r := popH q
  (donePs st (sign * r.1), r.2, a.2.2.1 ++ [sign * r.1], a.2.2.2 ++ [b])
noncomputable def oneN (ws : List (List Int)) (sign : Int) : List Int × List (List Int) :=
  let r := turnPs sign (turnPs sign (turnPs sign (turnPs sign (prepPs (initNs ws 4), [], [], [[0, 1, 2, 3, 4]]))))
  (r.2.2.1, r.2.2.2)
noncomputable def waitsN (four : List Int) (k : Nat) : List Int := ((List.range 4).filter fun j => decide (j ≠ k) && (taker [four.getD k 0, 0] (four.getD j 0).toNat == some (four.getD k 0))).map fun (j : Nat) => (j : Int)
noncomputable def tableN (four : List Int) : List (List Int) := (List.range 4).map (waitsN four)
noncomputable def goodN (four : List Int) : List (List Int) := (nestsN 4).filter fun way => own (way.map fun k => four.getD k.toNat 0)
noncomputable def good2N (four : List Int) : List (List Int) := (nestsN 4).filter fun way => noWider (way.map fun k => four.getD k.toNat 0)
noncomputable def byN (good : List (List Int)) (nest : List Int) : List Int × List (List Int) :=
  let step := fun (a : List (List Int) × List (List Int)) (turn : Nat) =>
    (a.1.filter (fun one => one.getD turn 0 == nest.getD turn 0), a.2 ++ [((List.range 5).map fun (j : Nat) => (j : Int)).filter fun j => !decide (j ∈ a.1.map fun one => one.getD turn 0)])
  (nest, ((List.range 4).foldl step (good, [[0, 1, 2, 3, 4]])).2)
noncomputable def lawN (four : List Int) : Bool :=
  goodN four == good2N four && (cyc (initNs (tableN four) 4) 100 (keysN (initNs (tableN four) 4)) []).isSome && oneN (tableN four) 1 == byN (goodN four) ((goodN four).headD []) && oneN (tableN four) (-1) == byN (goodN four) ((goodN four).getLastD [])
end Mine
end

section
open PySem PySem.W PyProof.Rows
set_option maxRecDepth 100000
set_option linter.unusedVariables false
namespace Mine
noncomputable abbrev OneS := Ps × List Int × List Int × List (List Int)
noncomputable def turnN (ws : List (List Int)) (sg : Int) : Nat → OneS
  | 0 => (prepPs (initNs ws 4), [], [], [[0, 1, 2, 3, 4]])
  | i + 1 => turnPs sg (turnN ws sg i)
noncomputable def activeN (a : OneS) : Bool := decide (a.1.f < a.1.p) || !a.1.ready.isEmpty
noncomputable def queueN (sg : Int) (a : OneS) : List Int := a.1.ready.foldl (fun q k => pushH q (sg * k)) a.2.1
noncomputable def turnOk (sg : Int) (a : OneS) : Bool :=
  activeN a && a.1.ready.all (fun k => decide (k ∈ keysN a.1.ns)) && decide (a.2.1.length + a.1.ready.length ≤ 4) && decide (1 ≤ (queueN sg a).length) && decide ((queueN sg a).length ≤ 4) &&
  (List.range 5).all (fun (j : Nat) => decide (sg * (j : Int) ∈ queueN sg a) || !decide ((j : Int) ∈ keysN (readyPs a.1).ns) || decide (0 ≤ npOf (readyPs a.1).ns j) || decide (npOf (readyPs a.1).ns j = -2)) &&
  decide (sg * (popH (queueN sg a)).1 ∈ keysN (readyPs a.1).ns) && decide (npOf (readyPs a.1).ns (sg * (popH (queueN sg a)).1) = -1) &&
  (suOf (readyPs a.1).ns (sg * (popH (queueN sg a)).1)).all (fun j => decide (j ∈ keysN (readyPs a.1).ns)) && decide ((suOf (readyPs a.1).ns (sg * (popH (queueN sg a)).1)).length ≤ 4) &&
  decide ((donePs (readyPs a.1) (sg * (popH (queueN sg a)).1)).ready.length ≤ 4) && decide (a.2.2.1.length ≤ 4) && decide (a.2.2.2.length ≤ 5) &&
  a.1.ready.all (fun k => decide (0 ≤ k ∧ k ≤ 3)) && decide (-3 ≤ (popH (queueN sg a)).1 ∧ (popH (queueN sg a)).1 ≤ 3)
noncomputable def prepOk (ws : List (List Int)) : Bool :=
  (keysN (initNs ws 4)).all (fun k => (suOf (initNs ws 4) k).all fun j => decide (j ∈ keysN (initNs ws 4))) && decide ((initNs ws 4).length ≤ 4) && (cyc (initNs ws 4) 100 (keysN (initNs ws 4)) []).isSome
noncomputable def runOk (ws : List (List Int)) (sg : Int) : Bool := prepOk ws && (List.range 4).all (fun i => turnOk sg (turnN ws sg i)) && !activeN (turnN ws sg 4)
theorem oneN_turn (ws : List (List Int)) (sg : Int) : oneN ws sg = ((turnN ws sg 4).2.2.1, (turnN ws sg 4).2.2.2) := rfl
theorem turn_succ (sg : Int) (a : OneS) : turnPs sg a = (donePs (readyPs a.1) (sg * (popH (queueN sg a)).1), (popH (queueN sg a)).2, a.2.2.1 ++ [sg * (popH (queueN sg a)).1], a.2.2.2 ++ [barredAt (readyPs a.1) sg (queueN sg a)]) := rfl
theorem run_prep {ws : List (List Int)} {sg : Int} (h : runOk ws sg = true) : (∀ k ∈ keysN (initNs ws 4), ∀ j ∈ suOf (initNs ws 4) k, j ∈ keysN (initNs ws 4)) ∧ (initNs ws 4).length ≤ 4 ∧ (cyc (initNs ws 4) 100 (keysN (initNs ws 4)) []).isSome = true := by
  simp only [runOk, prepOk, Bool.and_eq_true, List.all_eq_true, decide_eq_true_eq] at h
  exact ⟨h.1.1.1.1, h.1.1.1.2, h.1.1.2⟩
theorem run_turn {ws : List (List Int)} {sg : Int} (h : runOk ws sg = true) {i : Nat} (hi : i < 4) : turnOk sg (turnN ws sg i) = true := by
  simp only [runOk, Bool.and_eq_true, List.all_eq_true] at h
  exact h.1.2 i (List.mem_range.mpr hi)
theorem run_end {ws : List (List Int)} {sg : Int} (h : runOk ws sg = true) : activeN (turnN ws sg 4) = false := by
  simp only [runOk, Bool.and_eq_true, Bool.not_eq_true'] at h
  exact h.2
structure TurnF (sg : Int) (a : OneS) : Prop where
  act : activeN a = true
  keys : ∀ k ∈ a.1.ready, k ∈ keysN a.1.ns
  qlen : a.2.1.length + a.1.ready.length ≤ 4
  q1 : 1 ≤ (queueN sg a).length
  q4 : (queueN sg a).length ≤ 4
  ref : ∀ j : Nat, j < 5 → sg * (j : Int) ∈ queueN sg a ∨ (j : Int) ∉ keysN (readyPs a.1).ns ∨ 0 ≤ npOf (readyPs a.1).ns j ∨ npOf (readyPs a.1).ns j = -2
  dk : sg * (popH (queueN sg a)).1 ∈ keysN (readyPs a.1).ns
  dn : npOf (readyPs a.1).ns (sg * (popH (queueN sg a)).1) = -1
  ds : ∀ j ∈ suOf (readyPs a.1).ns (sg * (popH (queueN sg a)).1), j ∈ keysN (readyPs a.1).ns
  dl : (suOf (readyPs a.1).ns (sg * (popH (queueN sg a)).1)).length ≤ 4
  dr : (donePs (readyPs a.1) (sg * (popH (queueN sg a)).1)).ready.length ≤ 4
  nl : a.2.2.1.length ≤ 4
  bl : a.2.2.2.length ≤ 5
  rr : ∀ k ∈ a.1.ready, 0 ≤ k ∧ k ≤ 3
  fr : -3 ≤ (popH (queueN sg a)).1 ∧ (popH (queueN sg a)).1 ≤ 3
theorem turn_ok {sg : Int} {a : OneS} (h : turnOk sg a = true) : TurnF sg a := by
  simp only [turnOk, Bool.and_eq_true, List.all_eq_true, decide_eq_true_eq, Bool.or_eq_true, Bool.not_eq_true', decide_eq_false_iff_not, List.mem_range] at h
  obtain ⟨⟨⟨⟨⟨⟨⟨⟨⟨⟨⟨⟨⟨⟨h1, h2⟩, h3⟩, h4⟩, h5⟩, h6⟩, h7⟩, h8⟩, h9⟩, h10⟩, h11⟩, h12⟩, h13⟩, h14⟩, h15⟩ := h
  refine ⟨h1, h2, h3, h4, h5, fun j hj => ?_, h7, h8, h9, h10, h11, h12, h13, h14, h15⟩
  rcases h6 j hj with ((h | h) | h) | h
  · exact .inl h
  · exact .inr (.inl h)
  · exact .inr (.inr (.inl h))
  · exact .inr (.inr (.inr h))
end Mine
end

section
open PySem PySem.Spec PySem.Calls PySem.W PyProof.Rows PyProof.Rows.LCg PySem.SeqAt
set_option Elab.async false
set_option maxRecDepth 100000
set_option maxHeartbeats 2000000
set_option linter.unusedVariables false
namespace Mine
section
variable {w : World} {A A₀ : Around} {base g : Heap} {outer : List Env} {L : Addr} {m : Str → Option Value} {s : Shared} {news : List (Addr × Obj)}
theorem is_int {w : World} {k : Int} {v : Value} (h : (PySem.intKind PySem.Challenge.rw_ny0334_01.prog w).is k v = true) : ∃ t, v = .int k t := by
  cases v with
  | int n t => exact ⟨t, by have e : (n == k) = true := h; rw [eq_of_beq e]⟩
  | _ => cases h
theorem source_keys {d : Addr} {od : Obj} {kvs : List (Int × Value)} (hh : A.handled = none) (F : Fr g L s.heap m) (N : News g L s.heap news) (hm : (d, od) ∈ news) (hd : od.IsDictOf (PySem.intKind PySem.Challenge.rw_ny0334_01.prog w) kvs) (lo : (d == sysModules) = false) :
    Source w A g L m s news (.ref d) [(d, od)] kvs.length (fun i v => ∃ k x t, kvs[i]? = some (k, x) ∧ v = .int k t) := fun Q E h => by
  obtain ⟨ep, hat⟩ := (kda_dict N hm hd).dictAt
  have hlt : d < s.heap.objs.size := Heap.lt_size (N _ hm).1
  have up : ∀ (o' : Obj) b o, s.heap.get? b = some o → (s.heap.push o').get? b = some o := fun o' b o e => Heap.get?_push_of_some _ e
  have W := Walks.dictKeys (prog := PySem.Challenge.rw_ny0334_01.prog) (w := w) (knd := PySem.intKind PySem.Challenge.rw_ny0334_01.prog w) hh s.heap.objs.size d (Nat.ne_of_lt hlt) kvs ep
  refine wpAny_pyIter_dict lo hat (h s.heap.objs.size { cls := .type "dict_keyiterator", data := .fields #[.ref d, .int 0 0, .int kvs.length 0, .int ep 0] } _ [s.heap.objs.size, d] (fun i h => h.IsKeyIter s.heap.objs.size d i kvs.length ep ∧ h.DictAt (PySem.intKind PySem.Challenge.rw_ny0334_01.prog w) d kvs ep) ⟨W.sub, W.frame, fun i s Q E hi st hQ => W.item i s Q E hi st fun v h' tk hP st' hk => hQ v h' tk (by obtain ⟨k, x, h1, h2⟩ := hP; obtain ⟨t, rfl⟩ := is_int h2; exact ⟨k, x, t, h1, rfl⟩) st' hk, W.done, W.self⟩ (fun i h st => by obtain ⟨o, e, _⟩ := st.1; exact ⟨o, e⟩) (fun b hb => ?_) ⟨⟨_, Heap.get?_push_size _ rfl, rfl, rfl⟩, hat.at' fun o e => up _ _ _ e⟩ (F.keeps (up _)) (fun q hq => ?_) fun q hq => Nat.ne_of_lt (Heap.lt_size (N q hq).1))
  · revert b; refine all_cons (.inl rfl) ?_; intro b hb; exact .inr ⟨_, by rw [List.mem_singleton.mp hb]; exact .head _⟩
  · revert q; refine all_cons (⟨Heap.get?_push_size _ rfl, Ne.symm (Nat.ne_of_lt F.ns.lt), next_is_new F⟩) ?_; intro q hq; exact ⟨up _ _ _ (N q hq).1, (N q hq).2⟩
theorem source_values {d vw : Addr} {od : Obj} {kvs : List (Int × Value)} (hh : A.handled = none) (F : Fr g L s.heap m) (N : News g L s.heap news) (hv : (vw, ({ cls := .type "dict_values", data := .fields #[.ref d] } : Obj)) ∈ news) (hm : (d, od) ∈ news) (hd : od.IsDictOf (PySem.intKind PySem.Challenge.rw_ny0334_01.prog w) kvs) :
    Source w A g L m s news (.ref vw) [(d, od)] kvs.length (fun i v => ∃ k, kvs[i]? = some (k, v)) := fun Q E h => by
  obtain ⟨ep, hat⟩ := (kda_dict N hm hd).dictAt
  have hlt : d < s.heap.objs.size := Heap.lt_size (N _ hm).1
  have up : ∀ (o' : Obj) b o, s.heap.get? b = some o → (s.heap.push o').get? b = some o := fun o' b o e => Heap.get?_push_of_some _ e
  have W := Walks.dictValues (prog := PySem.Challenge.rw_ny0334_01.prog) (w := w) (knd := PySem.intKind PySem.Challenge.rw_ny0334_01.prog w) hh s.heap.objs.size d (Nat.ne_of_lt hlt) kvs ep
  refine wpAny_pyIter_values ⟨_, (N _ hv).1, rfl, rfl⟩ hat (h s.heap.objs.size { cls := .type "dict_valueiterator", data := .fields #[.ref d, .int 0 0, .int kvs.length 0, .int ep 0] } _ _ _ W (fun i h st => by obtain ⟨o, e, _⟩ := st.1; exact ⟨o, e⟩) (fun b hb => ?_) ⟨⟨_, Heap.get?_push_size _ rfl, rfl, rfl⟩, hat.at' fun o e => up _ _ _ e⟩ (F.keeps (up _)) (fun q hq => ?_) fun q hq => Nat.ne_of_lt (Heap.lt_size (N q hq).1))
  · revert b; refine all_cons (.inl rfl) ?_; intro b hb; exact .inr ⟨_, by rw [List.mem_singleton.mp hb]; exact .head _⟩
  · revert q; refine all_cons (⟨Heap.get?_push_size _ rfl, Ne.symm (Nat.ne_of_lt F.ns.lt), next_is_new F⟩) ?_; intro q hq; exact ⟨up _ _ _ (N q hq).1, (N q hq).2⟩
end
end Mine
end

section
open PySem PySem.Spec PySem.Calls PySem.W PyProof.Rows PyProof.Rows.LCg PySem.SeqAt
set_option Elab.async false
set_option maxRecDepth 100000
set_option maxHeartbeats 2000000
set_option linter.unusedVariables false
namespace Mine
theorem li_ga : Slot "list_iterator" "__getattribute__" "object.__getattribute__" :=
  .of (owner := "object") (n := "__getattribute__") (by rw [typeLookup_type, builtinLookup_eq_fast]; kernel_rfl) (by decide +kernel) (by decide +kernel) (by decide +kernel)
    (by first | exact .inl (by decide +kernel) | exact .inr (by decide +kernel)) (by rw [isSubtype_type]; kernel_rfl)
theorem wd_get : Slot "wrapper_descriptor" "__get__" "wrapper_descriptor.__get__" :=
  .of (owner := "wrapper_descriptor") (n := "__get__") (by rw [typeLookup_type, builtinLookup_eq_fast]; kernel_rfl) (by decide +kernel) (by decide +kernel) (by decide +kernel)
    (by first | exact .inl (by decide +kernel) | exact .inr (by decide +kernel)) (by rw [isSubtype_type]; kernel_rfl)
theorem wd_set : typeLookup (.type "wrapper_descriptor") "__set__" = pure none := by rw [typeLookup_type, builtinLookup_eq_fast]; kernel_rfl
theorem wd_del : typeLookup (.type "wrapper_descriptor") "__delete__" = pure none := by rw [typeLookup_type, builtinLookup_eq_fast]; kernel_rfl
theorem li_next_type : typeOf (.builtin "list_iterator.__next__") = pure (.type "wrapper_descriptor") := by show builtinType _ = _; rw [builtinType_eq_fast]; kernel_rfl
theorem wd_entry : entryFor table "wrapper_descriptor.__get__" = some Builtin.«wrapper_descriptor.__get__» := entryFor_of_tree (by kernel_rfl)
theorem wd_args (a b c : Value) : argsOk "wrapper_descriptor.__get__" ⟨[a, b, c], []⟩ := by unfold argsOk; kernel_rfl
theorem ga_args (a b : Value) : argsOk "object.__getattribute__" ⟨[a, b], []⟩ := by unfold argsOk; kernel_rfl
theorem ga_entry : entryFor table "object.__getattribute__" = some Builtin.«object.__getattribute__» := entryFor_of_tree (by kernel_rfl)
theorem li_owner : (".".intercalate ("list_iterator.__next__".cutAt '.').dropLast) = "list_iterator" := by decide +kernel
theorem li_sub : isSubtype (.type "list_iterator") (.type (".".intercalate ("list_iterator.__next__".cutAt '.').dropLast)) = pure true := by
  rw [li_owner, isSubtype_type]; kernel_rfl
noncomputable abbrev wrapObj (a : Addr) : Obj := { cls := .type "method-wrapper", data := .fields #[.builtin "list_iterator.__next__", .ref a] }
section
variable {prog : Program} {w : World} {A : Around} {E : Value → Shared → Prop} {h : Heap} {g : Array GenState} {d : Drawn} {t : Nat} {os : OsState} {a : Addr} {o : Obj}
theorem next_get {R : Result → Shared → Prop} (hx : h.get? a = some o) (hc : o.cls = .type "list_iterator") (hq : R (.ok (.ret (.ref h.objs.size))) ⟨h.push (wrapObj a), g, d, t, os⟩) :
    codeAny (model prog w) A (.call (.builtin "wrapper_descriptor.__get__") ⟨[.builtin "list_iterator.__next__", .ref a, .type "list_iterator"], []⟩) R ⟨h, g, d, t, os⟩ := by
  have hT : (⟨h, g, d, t, os⟩ : Shared).TypeIs (.ref a) "list_iterator" := ⟨_, hx, hc⟩
  have hT5 : (⟨h, g, d, t, os⟩ : Shared).TypeIs (.builtin "list_iterator.__next__") "wrapper_descriptor" := li_next_type
  have f8 := li_sub
  refine codeAny_call_builtin wd_get.plain wd_entry (wd_get.check _ _ _ _ _ _ _ _ hT5 (wd_args _ _ _) ?_)
  repeat (any_goals (first | assumption | wp_step))
theorem next_entry {tk : Tok} {Q : Fin → Shared → Prop} (hx : h.get? a = some o) (hc : o.cls = .type "list_iterator") (hd : o.dict = none) (hf : ∃ vs, o.data = .fields vs) (hq : Q (.done (.ret (.ref h.objs.size))) ⟨h.push (wrapObj a), g, d, t, os⟩) :
    wpAny (model prog w) A (Builtin.«object.__getattribute__» ⟨[.ref a, .str "__next__" tk], []⟩) Q E ⟨h, g, d, t, os⟩ := by
  have hT : (⟨h, g, d, t, os⟩ : Shared).TypeIs (.ref a) "list_iterator" := ⟨_, hx, hc⟩
  have hT5 : (⟨h, g, d, t, os⟩ : Shared).TypeIs (.builtin "list_iterator.__next__") "wrapper_descriptor" := li_next_type
  have f4 := slot_listiter_next.lookup
  have f5 := li_next_type
  have f6 := wd_get.lookup
  have f7 := wd_set
  have f8 := wd_del
  obtain ⟨vs, hv⟩ := hf
  obtain ⟨cls, dd, data, sl⟩ := o
  simp only at hc hd hv
  subst hc hd hv
  repeat (any_goals (first | assumption | wp_step))
  refine next_get hx rfl ?_
  repeat (any_goals (first | assumption | wp_step))
theorem next_call {tk : Tok} {R : Result → Shared → Prop} (hx : h.get? a = some o) (hc : o.cls = .type "list_iterator") (hd : o.dict = none) (hf : ∃ vs, o.data = .fields vs) (hq : R (.ok (.ret (.ref h.objs.size))) ⟨h.push (wrapObj a), g, d, t, os⟩) :
    codeAny (model prog w) A (.call (.builtin "object.__getattribute__") ⟨[.ref a, .str "__next__" tk], []⟩) R ⟨h, g, d, t, os⟩ :=
  codeAny_call_builtin li_ga.plain ga_entry (li_ga.check _ _ _ _ _ _ _ _ (show (⟨h, g, d, t, os⟩ : Shared).TypeIs (.ref a) "list_iterator" from ⟨_, hx, hc⟩) (ga_args _ _) (next_entry hx hc hd hf hq))
theorem next_by {tk : Tok} {Q : Value → Shared → Prop} (hx : h.get? a = some o) (hc : o.cls = .type "list_iterator") (hd : o.dict = none) (hf : ∃ vs, o.data = .fields vs) (hq : Q (.ref h.objs.size) ⟨h.push (wrapObj a), g, d, t, os⟩) : wpAny (model prog w) A (getAttrBy (.ref a) (.str "__next__" tk) true true) Q E ⟨h, g, d, t, os⟩ := by
  have hT : (⟨h, g, d, t, os⟩ : Shared).TypeIs (.ref a) "list_iterator" := ⟨_, hx, hc⟩
  have f2 := li_ga.lookup
  have f3 := li_ga.bind (.ref a)
  repeat (any_goals (first | assumption | wp_step))
  refine next_call hx hc hd hf ?_
  repeat (any_goals (first | assumption | wp_step))
end
theorem next_attr {w : World} {A : Around} {E : Value → Shared → Prop} {s : Shared} {g : Heap} {L a : Addr} {m : Str → Option Value} {o : Obj} {news : List (Addr × Obj)} {Q : Value → Shared → Prop} (F : Fr g L s.heap m) (N : News g L s.heap news) (hm : (a, o) ∈ news) (hc : o.cls = .type "list_iterator") (hd : o.dict = none) (hf : ∃ vs, o.data = .fields vs)
    (h : ∀ q h' tk, Fr g L h' m → News g L h' ((q, wrapObj a) :: news) → (∀ p ∈ news, p.1 < q) → Q (.ref q) { s with heap := h', toks := tk }) : wpAny (MG w) A (getAttr (.ref a) (Str.ofString "__next__") true) Q E s := by
  obtain ⟨hh, gg, dd, tt, os⟩ := s
  unfold getAttr
  refine wpAny_bind (wpAny_mkText ?_)
  exact next_by (N _ hm).1 hc hd hf (h _ _ _ (F.push _) (N.push F _) fun p hp => Heap.lt_size (N p hp).1)

end Mine
end

section
open PySem PySem.Spec PySem.Calls PySem.W PyProof.Rows PyProof.Rows.LCg PySem.SeqAt
set_option Elab.async false
set_option maxRecDepth 100000
set_option maxHeartbeats 2000000
set_option linter.unusedVariables false
namespace Mine
noncomputable abbrev itObj (l : Addr) (i : Nat) : Obj := { cls := .type "list_iterator", data := .fields #[.ref l, .int i 0] }
theorem wrap_check (a : Addr) : checkBoundCall "list_iterator.__next__" ⟨[.ref a], []⟩ = pure () := by kernel_rfl
section
variable {prog : Program} {w : World} {A : Around} {E : Value → Shared → Prop} {s : Shared} {q a l : Addr} {R : Result → Shared → Prop}
theorem wrap_call (ho : s.heap.get? q = some (wrapObj a)) (h : codeAny (model prog w) A (.builtin "list_iterator.__next__" ⟨[.ref a], []⟩) R s) : codeAny (model prog w) A (.call (.ref q) ⟨[], []⟩) R s := by
  obtain ⟨hh, g, dr, t, os⟩ := s
  refine codeAny_of_tree ?_
  show wpAny _ _ (callAny (.ref q) _) _ _ _
  dsimp only at ho
  refine nd_load ho ?_
  refine wpAny_bind (m := Sem.pure (wrapObj a)) (wpAny_pure ?_)
  dsimp only
  rw [if_pos (by decide)]
  show wpAny _ _ (if (Value.type "method-wrapper" != Value.type "method") = true then (do checkBoundCall "list_iterator.__next__" ⟨[.ref a], []⟩; again (.builtin "list_iterator.__next__" ⟨[.ref a], []⟩)) else again (.call (.builtin "list_iterator.__next__") ⟨[.ref a], []⟩)) _ _ _
  rw [if_pos (by decide)]
  refine wpAny_bind (wpAny_of_eq (wrap_check a) ?_)
  exact wpAny_pure ⟨Code.quiet_builtin _ (by decide +kernel), h⟩
variable {i : Nat} {its : Array Value} {x : Value}
theorem next_body (hit : s.heap.IsListIter a l i) (hl : s.heap.IsList l its) (hx : its[i]? = some x)
    (hQ : ∀ h', h'.get? a = some (Obj.mapFields (·.setIfInBounds 1 (rawInt ((i : Int) + 1))) ((s.heap.get? a).getD default)) → Heap.SameBut a s.heap h' → R (.ok (.ret x)) { s with heap := h' }) :
    codeAny (model prog w) A (.builtin "list_iterator.__next__" ⟨[.ref a], []⟩) R s := by
  obtain ⟨o, ho, hc, hd⟩ := id hit
  obtain ⟨ol, hol, _, nl, hdl⟩ := hl
  refine codeAny_builtin entry_listiter_next ?_
  show wpAny _ _ (field (.ref a) 0 >>= _) _ _ s
  refine wpAny_bind (wpAny_field ho hd (x := .ref l) rfl ?_)
  show wpAny _ _ (if (Value.ref l == Value.none) = true then _ else _) _ _ s
  rw [if_neg (show ¬ ((Value.ref l == Value.none) = true) from Bool.false_ne_true)]
  show wpAny _ _ (field (.ref a) 1 >>= _) _ _ s
  refine wpAny_bind (wpAny_field ho hd (x := .int i 0) rfl ?_)
  show wpAny _ _ (seqItems? (.ref l) >>= _) _ _ s
  refine wpAny_bind (wpAny_seqItems hol hdl ?_)
  simp only [Int.toNat_natCast, hx]
  refine wpAny_bind (wpAny_setField ho hd (by simp) (wpAny_pure (hQ _ ?_ (Heap.SameBut.update ..))))
  rw [ho]
  exact Heap.get?_update_self _ ho (Obj.isFreed_of_fields (Obj.data_mapFields hd _))
theorem next_end (hh : A.handled = none) (hit : s.heap.IsListIter a l i) (hl : s.heap.IsList l its) (hx : its[i]? = none)
    (hQ : ∀ h' e tk, Heap.NewExc (s.heap.update a (Obj.mapFields (·.setIfInBounds 0 .none))) h' e "StopIteration" → R (.error (.ref e)) { s with heap := h', toks := tk }) :
    codeAny (model prog w) A (.builtin "list_iterator.__next__" ⟨[.ref a], []⟩) R s := by
  obtain ⟨o, ho, hc, hd⟩ := id hit
  obtain ⟨ol, hol, _, nl, hdl⟩ := hl
  refine codeAny_builtin entry_listiter_next ?_
  show wpAny _ _ (field (.ref a) 0 >>= _) _ _ s
  refine wpAny_bind (wpAny_field ho hd (x := .ref l) rfl ?_)
  show wpAny _ _ (if (Value.ref l == Value.none) = true then _ else _) _ _ s
  rw [if_neg (show ¬ ((Value.ref l == Value.none) = true) from Bool.false_ne_true)]
  show wpAny _ _ (field (.ref a) 1 >>= _) _ _ s
  refine wpAny_bind (wpAny_field ho hd (x := .int i 0) rfl ?_)
  show wpAny _ _ (seqItems? (.ref l) >>= _) _ _ s
  refine wpAny_bind (wpAny_seqItems hol hdl ?_)
  simp only [Int.toNat_natCast, hx]
  refine wpAny_bind (wpAny_rule (wpAny_bind (wpAny_setField ho hd (by simp) ?_)))
  show wpAny _ _ (newExc (.type "StopIteration") [] >>= _) _ _ _
  refine wpAny_bind ?_
  simp only [newExc, newTuple]
  refine wpAny_bind (wpAny_newObj_type ?_ (by size_fits))
  refine wpAny_bind (m := firstArgMember _ _) (wpAny_of_eq (a := Value.none) (by first | rfl | (simp only [firstArgMember]; rfl)) ?_)
  refine wpAny_newObj_type ?_ (by size_fits)
  simp only [raiseNew]
  refine wpAny_bind (wpAny_handled ?_)
  rw [show (A.under (.builtin "list_iterator.__next__" ⟨[.ref a], []⟩)).handled = none from hh]
  refine wpAny_bind (wpAny_pure (wpAny_throw ?_))
  refine hQ _ _ _ ⟨fun b ob e => Heap.get?_push_of_some _ (Heap.get?_push_of_some _ e), ?_, ?_⟩
  · cases e : (s.heap.update a (Obj.mapFields fun x => x.setIfInBounds 0 Value.none)).get? ((s.heap.update a (Obj.mapFields fun x => x.setIfInBounds 0 Value.none)).push { cls := Value.type "tuple", data := Data.seq #[] }).objs.size with
    | none => rfl
    | some ob => exact absurd (Heap.lt_size e) (by rw [Heap.size_push]; exact Nat.not_lt.mpr (Nat.le_succ _))
  · exact ⟨_, _, Heap.get?_push_size _ rfl, rfl, rfl⟩
end
end Mine
end

section
open PySem PySem.Spec PySem.Calls PySem.W PyProof.Rows PyProof.Rows.LCg PySem.SeqAt
set_option Elab.async false
set_option maxRecDepth 100000
set_option maxHeartbeats 2000000
set_option linter.unusedVariables false
namespace Mine
noncomputable abbrev deadIt (i : Nat) : Obj := { cls := .type "list_iterator", data := .fields #[.none, .int i 0] }
section
variable {w : World} {A : Around} {E : Value → Shared → Prop} {s : Shared} {g : Heap} {L q a l : Addr} {m : Str → Option Value} {news news' : List (Addr × Obj)} {i n : Nat} {its : Array Value} {x : Value} {Q : Value → Shared → Prop}
theorem next_item_K (F : Fr g L s.heap m) (N : News g L s.heap news) (hq : (q, wrapObj a) ∈ news) (U : Upd a (itObj l i) (itObj l (i + 1)) news news') (hl : (l, W.listOf its n) ∈ news) (hx : its[i]? = some x)
    (h : ∀ h', Fr g L h' m → News g L h' news' → Q x { s with heap := h' }) : wpAny (MG w) A (call (.ref q) []) Q E s := by
  obtain ⟨pre, post, rfl, rfl, a1, b1⟩ := U.split
  have hm := N (a, itObj l i) (List.mem_append_right _ (.head _))
  refine wpAny_call (wrap_call (N _ hq).1 (next_body (l := l) ⟨_, hm.1, rfl, rfl⟩ ⟨_, (N _ hl).1, rfl, _, rfl⟩ hx fun h' he hs => ?_))
  refine h h' (F.change hs hm.2.1 hm.2.2) (N.setIn a1 b1 hs ?_)
  rw [he, hm.1]
  rfl
theorem next_stop_K (hh : A.handled = none) (F : Fr g L s.heap m) (N : News g L s.heap news) (hq : (q, wrapObj a) ∈ news) (U : Upd a (itObj l i) (deadIt i) news news') (hl : (l, W.listOf its n) ∈ news) (hx : its[i]? = none)
    (h : ∀ hm h' e tk, Fr g L hm m → News g L hm news' → Heap.NewExc hm h' e "StopIteration" → E (.ref e) { s with heap := h', toks := tk }) : wpAny (MG w) A (call (.ref q) []) Q E s := by
  obtain ⟨pre, post, rfl, rfl, a1, b1⟩ := U.split
  have hm := N (a, itObj l i) (List.mem_append_right _ (.head _))
  refine wpAny_call (wrap_call (N _ hq).1 (next_end (l := l) hh ⟨_, hm.1, rfl, rfl⟩ ⟨_, (N _ hl).1, rfl, _, rfl⟩ hx fun h' e tk hx => ?_))
  refine h _ h' e tk (F.change (Heap.SameBut.update ..) hm.2.1 hm.2.2) (N.setIn a1 b1 (Heap.SameBut.update ..) ?_) hx
  exact Heap.get?_update_self _ hm.1 rfl
end
end Mine
end

section
open PySem PySem.Spec PySem.Calls PySem.W PyProof.Rows PyProof.Rows.LCg PySem.SeqAt
set_option Elab.async false
set_option maxRecDepth 100000
set_option maxHeartbeats 2000000
set_option linter.unusedVariables false
namespace Mine
section
variable {w : World} {A A₀ : Around} {base g : Heap} {outer : List Env} {L : Addr} {m : Str → Option Value} {s : Shared} {news : List (Addr × Obj)} {env : Env} {test : PySem.Expr} {body orelse : List Stmt} {pos : Pos} {E : Value → Shared → Prop} {Q : Flow → Shared → Prop}
theorem while_G (J : Nat → (Str → Option Value) → List (Addr × Obj) → Prop) {n : Nat} (B : Below A₀ base outer g) (F : Fr g L s.heap m) (N : News g L s.heap news) (j0 : J n m news)
    (turn : ∀ n g' m' led h tk, J n m' led → Slid (fra outer) g g' → Below A₀ base outer g' → Fr g' L h m' → News g' L h led →
      wpAny (MG w) A (isTrue test env (eval test env)) (fun b s₂ => if b = true then wpAny (MG w) A (execs body env) (fun f s₃ => match f with
          | .next | .cont => Goes outer g' L s (fun m'' l => ∃ n', n' < n ∧ J n' m'' l) s₃
          | .brk => Q .next s₃
          | .ret v => Q (.ret v) s₃) (fun _ _ => False) s₂
        else wpAny (MG w) A (execs orelse env) (fun f s₃ => Q f s₃) (fun _ _ => False) s₂) (fun _ _ => False) { s with heap := h, toks := tk }) :
    Here (wpAny (MG w) A (exec (.While test body orelse pos) env) Q E s) := by
  refine wpAny_While (codeAny_whileLoop (fun k s' => ∃ g' m' led h tk, s' = { s with heap := h, toks := tk } ∧ J k m' led ∧ Slid (fra outer) g g' ∧ Below A₀ base outer g' ∧ Fr g' L h m' ∧ News g' L h led) ?_ n ⟨g, m, news, s.heap, s.toks, rfl, j0, Slid.refl .., B, F, N⟩)
  intro k s' hP1; refine hideG fun G0 k0 => ?_; obtain ⟨g', m', led, h, tk, eq1, hj, Sl, B', F', N'⟩ := hP1; refine k0 ?_; clear k0 G0; subst eq1
  refine wpAny_mono (turn k g' m' led h tk hj Sl B' F' N') (fun b s₂ hb => ?_) fun _ _ q => q.elim
  cases b with
  | false => exact wpAny_mono hb (fun f s₃ hf => hf) fun _ _ q => q.elim
  | true =>
    refine wpAny_mono hb (fun f s₃ hf => ?_) fun _ _ q => q.elim
    have go : Goes outer g' L s (fun m'' l => ∃ n', n' < k ∧ J n' m'' l) s₃ → ∃ k', k' < k ∧ ∃ g' m' led h tk, s₃ = { s with heap := h, toks := tk } ∧ J k' m' led ∧ Slid (fra outer) g g' ∧ Below A₀ base outer g' ∧ Fr g' L h m' ∧ News g' L h led := by
      intro hP1; refine hideG fun G0 k0 => ?_; obtain ⟨g3, m3, l3, h3, tk3, eq1, S3, F3, N3, n', hn, j3⟩ := hP1; refine k0 ?_; clear k0 G0; subst eq1
      exact ⟨n', hn, g3, m3, l3, h3, tk3, rfl, j3, Sl.trans S3, below_slid B' S3, F3, N3⟩
    cases f with
    | next => exact go hf
    | cont => exact go hf
    | brk => exact hf
    | ret v => exact hf
end
end Mine
end

section
open PySem PySem.Spec PySem.Calls PySem.W PyProof.Rows PyProof.Rows.LCg PySem.SeqAt
set_option Elab.async false
set_option maxRecDepth 100000
set_option maxHeartbeats 1000000
set_option linter.unusedVariables false
namespace Mine
section
variable {w : World} {A : Around} {g : Heap} {L : Addr} {m : Str → Option Value} {s : Shared} {news : List (Addr × Obj)} {E : Value → Shared → Prop} {Q : Value → Shared → Prop}
theorem item_last {value slice : PySem.Expr} {ax : Addr} {p : List Value} {y : Value} {k : Nat} {t : Tok} (N : News g L s.heap news) (hm : (ax, W.listOf (p ++ [y]).toArray k) ∈ news) (hz : p.length < 1000) (h : Q y s)
    (hs : subscripted slice false (.ref ax) (.int (-1) t) = operate [.ref ax, .int (-1) t] (getItem (.ref ax) (.int (-1) t)) := by with_unfolding_all rfl) :
    wpAny (MG w) A (subscriptTail value slice (.ref ax) (.int (-1) t)) Q E s :=
  have hL : s.heap.IsList ax (p ++ [y]).toArray := ⟨_, (N _ hm).1, rfl, _, rfl⟩
  have e : (-1 + ((p ++ [y]).toArray.size : Int)).toNat = p.length := by rw [List.size_toArray, List.length_append, List.length_singleton]; omega
  tail_any hL.typeIs slot_list_getitem.lookup (wpAny_getItem_list_neg hL (by decide) (by rw [List.size_toArray, List.length_append, List.length_singleton]; omega) (by decide) (by rw [e]; simp) h) hs
theorem callWith_W {pos : Pos} {q a : Addr} {env : Env} (N : News g L s.heap news) (hq : (q, wrapObj a) ∈ news) (h : wpAny (MG w) A (call (.ref q) []) Q E s) : wpAny (MG w) A (callWith pos (.ref q) [] (backTo pos (starEach [] env)) []) Q E s := by
  unfold callWith
  refine wpAny_bind (wpAny_holding (evalArgs_nil3 (wpAny_bind (wpAny_standAt ?_))))
  refine wpAny_bind (m := keeperOf (.ref q)) ?_
  unfold keeperOf
  refine wpAny_bind (wpAny_load (N _ hq).1 ?_)
  simp only [wrapObj, show (Value.type "method-wrapper" != Value.type "method") = true by decide, show (Value.type "method-wrapper" == Value.type "builtin_function_or_method" || Value.type "method-wrapper" == Value.type "method-wrapper") = true by decide, if_true]
  refine wpAny_pure ?_
  exact wpAny_bind (wpAny_mono h (fun r s₂ hr => wpAny_bind (wpAny_holding (wpAny_point (wpAny_pure hr)))) fun _ _ x => x)
end
end Mine
end

section
open PySem PySem.Spec PySem.Calls PySem.W PyProof.Rows PyProof.Rows.LCg PySem.SeqAt
set_option Elab.async false
set_option maxRecDepth 100000
set_option maxHeartbeats 1000000
set_option linter.unusedVariables false
namespace Mine
structure Lv where
  node : Int
  nt : Tok
  ma : Addr
  ja : Addr
  sa : Addr
  i : Nat
noncomputable abbrev Lv.led (v : Lv) : List (Addr × Obj) := [(v.ma, wrapObj v.ja), (v.ja, itObj v.sa v.i)]
noncomputable def lvled (l : List Lv) : List (Addr × Obj) := l.flatMap Lv.led
noncomputable def stv (l : List Lv) : List Value := l.map fun v => .int v.node v.nt
noncomputable def itv (l : List Lv) : List Value := l.map fun v => .ref v.ma
noncomputable def lvN (l : List Lv) : List (Int × Nat) := (l.map fun v => (v.node, v.i)).reverse
theorem stv_snoc (l : List Lv) (v : Lv) : stv (l ++ [v]) = stv l ++ [.int v.node v.nt] := by simp [stv]
theorem itv_snoc (l : List Lv) (v : Lv) : itv (l ++ [v]) = itv l ++ [.ref v.ma] := by simp [itv]
theorem lvN_snoc (l : List Lv) (v : Lv) : lvN (l ++ [v]) = (v.node, v.i) :: lvN l := by simp [lvN]
structure CAt (w : World) (l : List Nd) (ns : List Pn) (X : List Addr) (lvs : List Lv) (seen : List Int) (oD oS : Obj) (kd : List (Int × Value)) : Prop where
  dict : oD.IsDictOf (PySem.intKind PySem.Challenge.rw_ny0334_01.prog w) kd
  keys : kd.map (·.1) = lvs.map (·.node)
  set : oS.SetObjOf (PySem.intKind PySem.Challenge.rw_ny0334_01.prog w) (fun k => decide (k ∈ seen)) seen.length
  sn : seen.Nodup
  sk : ∀ k ∈ seen, k ∈ keysN ns
  sub : ∀ v ∈ lvs, v.node ∈ seen
  lv : ∀ v ∈ lvs, ∃ nd ∈ l, nd.key = v.node ∧ nd.sa = v.sa
  nd : (lvs.map (·.node)).Nodup
  ap : (X ++ (lvled lvs ++ nled l).map (·.1)).Nodup
noncomputable abbrev cycL (D4 SE IT ST S dS N2 : Addr) (d : Sd) (r : Value) (pv f : Int) (oN oD oS : Obj) (n1 n2 : Nat) (lvs : List Lv) (l : List Nd) : List (Addr × Obj) :=
  (D4, oD) :: (SE, oS) :: (IT, W.listOf (itv lvs).toArray n1) :: (ST, W.listOf (stv lvs).toArray n2) :: (S, instObj 137 dS) :: (dS, sdict d N2 r pv f) :: (N2, oN) :: (lvled lvs ++ nled l)
theorem without_last {kd : List (Int × Value)} {k : Int} {x : Value} (h : k ∉ kd.map (·.1)) : without (kd ++ [(k, x)]) k = kd := by
  unfold without
  rw [List.filter_append]
  have e1 : kd.filter (fun kv => decide (kv.1 ≠ k)) = kd := List.filter_eq_self.mpr fun q hq => decide_eq_true fun e => h (e ▸ List.mem_map_of_mem hq)
  rw [e1]
  simp
theorem stored_new {kd : List (Int × Value)} {k : Int} {x : Value} (h : k ∉ kd.map (·.1)) : stored kd k x = kd ++ [(k, x)] := by
  unfold stored
  rw [if_neg]
  rw [List.any_eq_true]
  rintro ⟨q, hq, e⟩
  exact h (by rw [← of_decide_eq_true e]; exact List.mem_map_of_mem hq)
end Mine
end

section
open PySem PySem.Spec PySem.Calls PySem.W PyProof.Rows PyProof.Rows.LCg PySem.SeqAt
set_option Elab.async false
set_option maxRecDepth 100000
set_option maxHeartbeats 1000000
set_option linter.unusedVariables false
namespace Mine
section
variable {w : World} {A : Around} {g : Heap} {L sa : Addr} {m : Str → Option Value} {s : Shared} {news : List (Addr × Obj)} {so : Obj} {E : Value → Shared → Prop} {Q : Value → Shared → Prop} {St : Int → Bool} {n : Nat} {k : Int} {t : Tok}
theorem set_in (N : News g L s.heap news) (hm : (sa, so) ∈ news) (hso : so.SetObjOf (PySem.intKind PySem.Challenge.rw_ny0334_01.prog w) St n) (hb : n < scanBound) (h : Q (.bool (St k)) { s with toks := s.toks + 1 }) :
    wpAny (MG w) A (compareOp .In (.int k t) (.ref sa)) Q E s := by
  obtain ⟨pre, post, rfl⟩ := List.append_of_mem hm
  exact in_sl1 N hso hb (intKind_is _ _ _ _) rfl h
theorem set_method {pl : Sem Bool} {Q : Value × List Value → Shared → Prop} (N : News g L s.heap news) (hm : (sa, so) ∈ news) (hso : so.SetObjOf (PySem.intKind PySem.Challenge.rw_ny0334_01.prog w) St n) (hb : n < scanBound) (h : Q (.builtin "set.add", [.ref sa]) s) :
    wpAny (MG w) A (getMethod (.ref sa) (Str.ofString "add") pl) Q E s := by
  obtain ⟨pre, post, rfl⟩ := List.append_of_mem hm
  exact getMethod_add_sl1 N hso hb h
theorem dict_in {od : Obj} {kvs : List (Int × Value)} (b : Bool) (N : News g L s.heap news) (hm : (sa, od) ∈ news) (hd : od.IsDictOf (PySem.intKind PySem.Challenge.rw_ny0334_01.prog w) kvs) (lo : (sa == sysModules) = false) (hb : (valueAt kvs k).isSome = b) (h : Q (.bool b) { s with toks := s.toks + 1 }) :
    wpAny (MG w) A (compareOp .In (.int k t) (.ref sa)) Q E s := kda_in (knd := PySem.intKind _ _) N hm hd lo (intKind_is _ _ _ _) b hb h
theorem valueAt_some {kvs : List (Int × Value)} {k : Int} : (valueAt kvs k).isSome = decide (k ∈ kvs.map (·.1)) := by
  unfold valueAt
  rw [Option.isSome_map]
  induction kvs with
  | nil => rfl
  | cons q r ih =>
    simp only [List.find?_cons, List.map_cons, List.mem_cons]
    by_cases e : q.1 = k
    · rw [show decide (q.1 = k) = true from decide_eq_true e]
      simp [e]
    · rw [show decide (q.1 = k) = false from decide_eq_false e]
      simp only [ih]
      have : (k = q.1) = False := by simp; exact fun x => e x.symm
      simp [this]
theorem truthy_snoc {p : List Value} {y : Value} {c : Nat} {Q : Bool → Shared → Prop} (N : News g L s.heap news) (hm : (sa, W.listOf (p ++ [y]).toArray c) ∈ news) (hz : p.length < 1000) (h : ∀ tk, Q true { s with toks := tk }) : wpAny (MG w) A (truthy (.ref sa)) Q E s := by
  refine wpAny_truthy_list ⟨_, (N _ hm).1, rfl, _, rfl⟩ (by rw [List.size_toArray, List.length_append, List.length_singleton]; omega) ?_
  rw [show (!(p ++ [y]).toArray.isEmpty) = true by simp]
  exact h _
end
end Mine
end

section
open PySem PySem.Spec PySem.Calls PySem.W PyProof.Rows PyProof.Rows.LCg PySem.SeqAt
set_option Elab.async false
set_option maxRecDepth 100000
set_option maxHeartbeats 400000
set_option linter.unusedVariables false
namespace Mine
theorem nd_mid {pre post : List (Addr × Obj)} {d : Addr} {o : Obj} (h : ((pre ++ (d, o) :: post).map (·.1)).Nodup) : (∀ p ∈ pre, p.1 ≠ d) ∧ ∀ p ∈ post, p.1 ≠ d := by
  simp only [List.map_append, List.map_cons] at h
  obtain ⟨_, h2, h3⟩ := List.nodup_append.mp h
  obtain ⟨h4, _⟩ := List.nodup_cons.mp h2
  exact ⟨fun p hp => h3 _ (List.mem_map_of_mem hp) _ (.head _), fun p hp e => h4 (e ▸ List.mem_map_of_mem hp)⟩
theorem upd_of {d : Addr} {o o' : Obj} {post : List (Addr × Obj)} (hb : ∀ p ∈ post, p.1 ≠ d) : ∀ {pre : List (Addr × Obj)}, (∀ p ∈ pre, p.1 ≠ d) → Upd d o o' (pre ++ (d, o) :: post) (pre ++ (d, o') :: post)
  | [], _ => .head hb
  | p :: pre, ha => .tail (ha p (.head _)) (upd_of hb fun q hq => ha q (.tail _ hq))
theorem updF_of {d : Addr} {o : Obj} {post : List (Addr × Obj)} (hb : ∀ p ∈ post, p.1 ≠ d) : ∀ {pre : List (Addr × Obj)}, (∀ p ∈ pre, p.1 ≠ d) → UpdF d o (pre ++ (d, o) :: post) (fun o' => pre ++ (d, o') :: post)
  | [], _ => .head hb
  | p :: pre, ha => .tail (ha p (.head _)) (updF_of hb fun q hq => ha q (.tail _ hq))
theorem upd_at (pre : List (Addr × Obj)) {post : List (Addr × Obj)} {d : Addr} {o o' : Obj} (h : ((pre ++ (d, o) :: post).map (·.1)).Nodup) : Upd d o o' (pre ++ (d, o) :: post) (pre ++ (d, o') :: post) := upd_of (nd_mid h).2 (nd_mid h).1
theorem updF_at (pre : List (Addr × Obj)) {post : List (Addr × Obj)} {d : Addr} {o : Obj} (h : ((pre ++ (d, o) :: post).map (·.1)).Nodup) : UpdF d o (pre ++ (d, o) :: post) (fun o' => pre ++ (d, o') :: post) := updF_of (nd_mid h).2 (nd_mid h).1
theorem nd_new {led : List (Addr × Obj)} {q : Addr} {o : Obj} (h : (led.map (·.1)).Nodup) (hl : ∀ p ∈ led, p.1 < q) : (((q, o) :: led).map (·.1)).Nodup := by
  refine List.nodup_cons.mpr ⟨fun hm => ?_, h⟩
  obtain ⟨p, hp, e⟩ := List.mem_map.mp hm
  have := hl p hp
  rw [show p.1 = q from e] at this
  exact Nat.lt_irrefl q this
noncomputable abbrev cycM (D4 SE IT ST N2 S : Addr) (o : Option Value) : Str → Option Value := fun y => if y = Str.ofString "node" then o else if y = Str.ofString "node2stacki" then some (Value.ref D4) else if y = Str.ofString "seen" then some (Value.ref SE) else if y = Str.ofString "itstack" then some (Value.ref IT) else if y = Str.ofString "stack" then some (Value.ref ST) else if y = Str.ofString "n2i" then some (Value.ref N2) else List.lookup y [(Str.ofString "self", Value.ref S)].reverse
theorem cycM_set {D4 SE IT ST N2 S : Addr} {o o' : Option Value} : (fun y => if y = Str.ofString "node" then o' else cycM D4 SE IT ST N2 S o y) = cycM D4 SE IT ST N2 S o' := by
  funext y
  unfold cycM
  by_cases e : y = Str.ofString "node"
  · rw [if_pos e, if_pos e]
  · rw [if_neg e, if_neg e, if_neg e]
theorem true_test {w : World} {A : Around} {E : Value → Shared → Prop} {s : Shared} {env : Env} {k : Nat} {pos : Pos} {Q : Bool → Shared → Prop} (h : Q true s) : wpAny (MG w) A (isTrue (.Constant (.bool true) k pos) env (eval (.Constant (.bool true) k pos) env)) Q E s :=
  isTrue_plain (wpAny_Constant_bool (wpAny_truthy_bool h))
theorem seq_cut {M : Model} {A : Around} {env : Env} {st : Stmt} {rest : List Stmt} {Q : Flow → Shared → Prop} {E : Value → Shared → Prop} {s : Shared} (P : Shared → Prop)
    (h1 : wpAny M A (exec st env) (fun f s' => f = .next ∧ P s') E s) (h2 : ∀ s', P s' → wpAny M A (execs rest env) Q E s') : wpAny M A (execs (st :: rest) env) Q E s :=
  wpAny_execs_cons (wpAny_mono h1 (fun f s' h => by obtain ⟨rfl, h⟩ := h; exact h2 s' h) fun _ _ e => e)
section
variable {w : World} {A A₀ : Around} {base g : Heap} {outer : List Env} {L : Addr} {m : Str → Option Value} {s : Shared} {news : List (Addr × Obj)} {env : Env} {test : PySem.Expr} {body orelse : List Stmt} {pos : Pos} {E : Value → Shared → Prop} {Q : Flow → Shared → Prop}
theorem while_H (J : Nat → (Str → Option Value) → List (Addr × Obj) → Prop) {n : Nat} (B : Below A₀ base outer g) (F : Fr g L s.heap m) (N : News g L s.heap news) (j0 : J n m news)
    (turn : ∀ (Qn Qo : Flow → Shared → Prop) n g' m' led h tk, J n m' led → Slid (fra outer) g g' → Below A₀ base outer g' → Fr g' L h m' → News g' L h led →
      (∀ s₃, Goes outer g' L s (fun m'' l => ∃ n', n' < n ∧ J n' m'' l) s₃ → Qn .next s₃) → (∀ s₃, Q .next s₃ → Qn .brk s₃) → (∀ v s₃, Q (.ret v) s₃ → Qn (.ret v) s₃) → (∀ f s₃, Q f s₃ → Qo f s₃) →
      wpAny (MG w) A (isTrue test env (eval test env)) (fun b s₂ => if b = true then wpAny (MG w) A (execs body env) Qn (fun _ _ => False) s₂
        else wpAny (MG w) A (execs orelse env) Qo (fun _ _ => False) s₂) (fun _ _ => False) { s with heap := h, toks := tk }) :
    Here (wpAny (MG w) A (exec (.While test body orelse pos) env) Q E s) :=
  while_G J B F N j0 fun n g' m' led h tk hj S B' F' N' => turn (fun f s₃ => match f with
          | .next | .cont => Goes outer g' L s (fun m'' l => ∃ n', n' < n ∧ J n' m'' l) s₃
          | .brk => Q .next s₃
          | .ret v => Q (.ret v) s₃) Q n g' m' led h tk hj S B' F' N' (fun _ h => h) (fun _ h => h) (fun _ _ h => h) fun _ _ h => h
theorem iter_K {ax : Addr} {its : Array Value} {k : Nat} {Q : Value → Shared → Prop} (F : Fr g L s.heap m) (N : News g L s.heap news) (hm : (ax, W.listOf its k) ∈ news)
    (h : ∀ I h', Fr g L h' m → News g L h' ((I, itObj ax 0) :: news) → (∀ p ∈ news, p.1 < I) → Q (.ref I) { s with heap := h' }) : wpAny (MG w) A (call (.builtin "iter") [.ref ax]) Q E s := by
  refine call_function_entry (by decide +kernel) (by decide +kernel) kdk_entry_iter (kdk_args_iter _) ?_
  unfold Builtin.«iter»
  refine wpAny_bind (m := someArgs "iter" 1 2 _) (wpAny_of_eq (a := [Value.ref ax]) (by first | rfl | kernel_rfl!) ?_)
  show wpAny _ _ (pyIter (.ref ax) >>= _) _ _ _
  refine wpAny_bind (wpAny_pyIter_list ⟨_, (N _ hm).1, rfl, _, rfl⟩ ?_)
  exact wpAny_pure ⟨_, rfl, h _ _ (F.push _) (News.push F N _ rfl) fun q hq => Heap.lt_size (N q hq).1⟩
end
theorem nd_level {X : List Addr} {A B : List (Addr × Obj)} {ma ja : Addr} {o1 o2 : Obj} (h : (X ++ (A ++ B).map (·.1)).Nodup) (h1 : ∀ a ∈ X ++ (A ++ B).map (·.1), a < ja) (h2 : ja < ma) : (X ++ ((A ++ [(ma, o1), (ja, o2)]) ++ B).map (·.1)).Nodup := by
  have e : (X ++ ((A ++ [(ma, o1), (ja, o2)]) ++ B).map (·.1)).Perm (ma :: ja :: (X ++ (A ++ B).map (·.1))) := by
    simp only [List.map_append, List.map_cons, List.map_nil, List.append_assoc]
    have := List.perm_append_comm_assoc (X ++ A.map (·.1)) [ma, ja] (B.map (·.1))
    simpa only [List.append_assoc, List.cons_append, List.nil_append] using this
  refine e.nodup_iff.mpr (List.nodup_cons.mpr ⟨fun hm => ?_, List.nodup_cons.mpr ⟨fun hm => Nat.lt_irrefl _ (h1 ja hm), h⟩⟩)
  rcases List.mem_cons.mp hm with rfl | hm
  · exact Nat.lt_irrefl _ h2
  · exact Nat.lt_asymm h2 (h1 ma hm)
theorem nd_less {X : List Addr} {A B C : List (Addr × Obj)} (h : (X ++ ((A ++ C) ++ B).map (·.1)).Nodup) : (X ++ (A ++ B).map (·.1)).Nodup := by
  refine List.Nodup.sublist (List.Sublist.append (List.Sublist.refl X) (List.Sublist.map _ (List.Sublist.append (List.sublist_append_left A C) (List.Sublist.refl B)))) h
section
variable {w : World} {l : List Nd} {ns : List Pn} {X : List Addr} {lvs : List Lv} {seen : List Int} {oD oS oD' oS' : Obj} {kd : List (Int × Value)}
theorem CAt.small (h : CAt w l ns X lvs seen oD oS kd) (hs : ns.length ≤ 4) : seen.length ≤ 4 ∧ lvs.length ≤ 4 ∧ kd.length ≤ 4 := by
  have h1 := nodup_len seen (keysN ns) h.sn h.sk
  have h2 := nodup_len (lvs.map (·.node)) seen h.nd fun x hx => by
    obtain ⟨v, hv, rfl⟩ := List.mem_map.mp hx
    exact h.sub v hv
  have h3 := congrArg List.length h.keys
  simp only [keysN, List.length_map] at h1 h2 h3
  omega
theorem CAt.push (h : CAt w l ns X lvs seen oD oS kd) {v : Lv} {nd : Nd} {x : Value} (hv : v.node ∉ seen) (hk : v.node ∈ keysN ns) (hn : nd ∈ l) (e1 : nd.key = v.node) (e2 : nd.sa = v.sa)
    (hd : oD'.IsDictOf (PySem.intKind PySem.Challenge.rw_ny0334_01.prog w) (stored kd v.node x)) (hs : oS'.SetObjOf (PySem.intKind PySem.Challenge.rw_ny0334_01.prog w) (fun k' => decide (k' ∈ seen) || decide (k' = v.node)) (if decide (v.node ∈ seen) = true then seen.length else seen.length + 1))
    (ha : (X ++ (lvled (lvs ++ [v]) ++ nled l).map (·.1)).Nodup) : CAt w l ns X (lvs ++ [v]) (seen ++ [v.node]) oD' oS' (kd ++ [(v.node, x)]) := by
  have hnk : v.node ∉ lvs.map (·.node) := fun hm => by
    obtain ⟨u, hu, e⟩ := List.mem_map.mp hm
    exact hv (e ▸ h.sub u hu)
  refine ⟨?_, ?_, ?_, ?_, ?_, ?_, ?_, ?_, ha⟩
  · rw [← stored_new (by rw [h.keys]; exact hnk)]; exact hd
  · rw [List.map_append, List.map_append, h.keys]; rfl
  · rw [if_neg (by simpa using hv)] at hs
    have e : (fun k => decide (k ∈ seen ++ [v.node])) = fun k' => decide (k' ∈ seen) || decide (k' = v.node) := by
      funext k
      by_cases a : k ∈ seen <;> by_cases b : k = v.node <;> simp [a, b]
    rw [e, List.length_append]; exact hs
  · exact List.nodup_append.mpr ⟨h.sn, by simp, fun a ha b hb e => hv (by rw [List.mem_singleton.mp hb] at e; exact e ▸ ha)⟩
  · intro k hk'
    rcases List.mem_append.mp hk' with hk' | hk'
    · exact h.sk k hk'
    · rw [List.mem_singleton.mp hk']; exact hk
  · intro u hu
    rcases List.mem_append.mp hu with hu | hu
    · exact List.mem_append_left _ (h.sub u hu)
    · rw [List.mem_singleton.mp hu]; simp
  · intro u hu
    rcases List.mem_append.mp hu with hu | hu
    · exact h.lv u hu
    · rw [List.mem_singleton.mp hu]; exact ⟨nd, hn, e1, e2⟩
  · rw [List.map_append]
    exact List.nodup_append.mpr ⟨h.nd, by simp, fun a ha b hb e => hnk (by rw [show b = v.node from List.mem_singleton.mp hb] at e; exact e ▸ ha)⟩
theorem CAt.pop {v : Lv} (h : CAt w l ns X (lvs ++ [v]) seen oD oS kd) (hd : oD'.IsDictOf (PySem.intKind PySem.Challenge.rw_ny0334_01.prog w) (without kd v.node)) : ∃ kd', CAt w l ns X lvs seen oD' oS kd' := by
  have hk := h.keys
  rw [List.map_append] at hk
  obtain ⟨k1, k2, rfl, e1, e2⟩ := List.map_eq_append_iff.mp hk
  have hnd := h.nd
  rw [List.map_append] at hnd
  obtain ⟨n1, _, n3⟩ := List.nodup_append.mp hnd
  have l1 : k2.length = 1 := by have := congrArg List.length e2; simpa using this
  obtain ⟨⟨a, x⟩, rfl⟩ := List.length_eq_one_iff.mp l1
  obtain rfl : a = v.node := by simpa using e2
  refine ⟨k1, ?_, e1, h.set, h.sn, h.sk, fun u hu => h.sub u (List.mem_append_left _ hu), fun u hu => h.lv u (List.mem_append_left _ hu), n1, ?_⟩
  · rw [without_last (by rw [e1]; exact fun hm => n3 _ hm _ (by simp) rfl)] at hd; exact hd
  · have := h.ap
    rw [show lvled (lvs ++ [v]) = lvled lvs ++ v.led by simp [lvled]] at this
    exact nd_less this
theorem CAt.step {v : Lv} {i : Nat} (h : CAt w l ns X (lvs ++ [v]) seen oD oS kd) : CAt w l ns X (lvs ++ [{ v with i := i }]) seen oD oS kd := by
  refine ⟨h.dict, by rw [h.keys]; simp, h.set, h.sn, h.sk, fun u hu => ?_, fun u hu => ?_, by have := h.nd; simpa using this, by have := h.ap; simpa [lvled] using this⟩
  · rcases List.mem_append.mp hu with hu | hu
    · exact h.sub u (List.mem_append_left _ hu)
    · rw [List.mem_singleton.mp hu]; exact h.sub v (by simp)
  · rcases List.mem_append.mp hu with hu | hu
    · exact h.lv u (List.mem_append_left _ hu)
    · rw [List.mem_singleton.mp hu]; exact h.lv v (by simp)
end
theorem nd_front {X : List Addr} {A B : List (Addr × Obj)} {ma ja : Addr} {o1 o2 : Obj} (h : (X ++ ((A ++ [(ma, o1), (ja, o2)]) ++ B).map (·.1)).Nodup) : (ma :: ja :: (X ++ (A ++ B).map (·.1))).Nodup := by
  have e : (X ++ ((A ++ [(ma, o1), (ja, o2)]) ++ B).map (·.1)).Perm (ma :: ja :: (X ++ (A ++ B).map (·.1))) := by
    simp only [List.map_append, List.map_cons, List.map_nil, List.append_assoc]
    have := List.perm_append_comm_assoc (X ++ A.map (·.1)) [ma, ja] (B.map (·.1))
    simpa only [List.append_assoc, List.cons_append, List.nil_append] using this
  exact e.nodup_iff.mp h
theorem lvled_snoc (lvs : List Lv) (v : Lv) : lvled (lvs ++ [v]) = lvled lvs ++ [(v.ma, wrapObj v.ja), (v.ja, itObj v.sa v.i)] := by simp [lvled]
theorem ints_get {vs : List Value} {ns : List Int} (h : IntsAre vs ns) {i : Nat} {x : Int} (e : ns[i]? = some x) : ∃ t, vs.toArray[i]? = some (.int x t) := by
  have hi : i < vs.length := by
    rw [h.length]
    rcases Nat.lt_or_ge i ns.length with q | q
    · exact q
    · rw [List.getElem?_eq_none q] at e; cases e
  obtain ⟨t, hv⟩ := ints_at h (List.getElem?_eq_getElem hi)
  refine ⟨t, ?_⟩
  rw [List.getElem?_toArray, List.getElem?_eq_getElem hi, hv]
  simp [List.getD_eq_getElem?_getD, e]
theorem ints_none {vs : List Value} {ns : List Int} (h : IntsAre vs ns) {i : Nat} (e : ns[i]? = none) : vs.toArray[i]? = none := by
  rw [List.getElem?_toArray, List.getElem?_eq_none]
  rw [h.length]; exact List.getElem?_eq_none_iff.mp e
theorem mem_lv {α : Type} {C A B : List α} {x y q : α} : q ∈ C ++ ((A ++ [x, y]) ++ B) ↔ q ∈ x :: y :: (C ++ (A ++ B)) := by
  simp only [List.mem_append, List.mem_cons, List.not_mem_nil, or_false]
  constructor
  · rintro (h | (h | h | h) | h)
    · exact .inr (.inr (.inl h))
    · exact .inr (.inr (.inr (.inl h)))
    · exact .inl h
    · exact .inr (.inl h)
    · exact .inr (.inr (.inr (.inr h)))
  · rintro (h | h | h | h | h)
    · exact .inr (.inl (.inr (.inl h)))
    · exact .inr (.inl (.inr (.inr h)))
    · exact .inl h
    · exact .inr (.inl (.inl h))
    · exact .inr (.inr h)
theorem nd_uniq : ∀ {l : List Nd}, (l.map (·.key)).Nodup → ∀ {a b : Nd}, a ∈ l → b ∈ l → a.key = b.key → a = b
  | [], _, a, b, ha, _, _ => nomatch ha
  | c :: l, h, a, b, ha, hb, e => by
    rw [List.map_cons, List.nodup_cons] at h
    rcases List.mem_cons.mp ha with rfl | ha' <;> rcases List.mem_cons.mp hb with rfl | hb'
    · rfl
    · exact absurd (e ▸ List.mem_map_of_mem hb') h.1
    · exact absurd (e ▸ List.mem_map_of_mem ha') h.1
    · exact nd_uniq h.2 ha' hb' e
theorem nd_order {D4 SE IT ST S dS N2 : Addr} {l : List Nd} (h : Ap [S, dS, N2] l) (l1 : S < ST ∧ dS < ST ∧ N2 < ST ∧ AllLt ST (nled l)) (l2 : ST < IT ∧ S < IT ∧ dS < IT ∧ N2 < IT ∧ AllLt IT (nled l)) (l3 : IT < SE ∧ ST < SE ∧ S < SE ∧ dS < SE ∧ N2 < SE ∧ AllLt SE (nled l)) (l4 : SE < D4 ∧ IT < D4 ∧ ST < D4 ∧ S < D4 ∧ dS < D4 ∧ N2 < D4 ∧ AllLt D4 (nled l)) :
    ([D4, SE, IT, ST, S, dS, N2] ++ (lvled [] ++ nled l).map (·.1)).Nodup := by
  have key : ∀ {c : Addr} {r : List Addr}, r.Nodup → (∀ a ∈ r, a < c) → (c :: r).Nodup := fun hr hl => List.nodup_cons.mpr ⟨fun hm => Nat.lt_irrefl _ (hl _ hm), hr⟩
  have al : ∀ {c : Addr}, AllLt c (nled l) → ∀ a ∈ (nled l).map (·.1), a < c := fun h a ha => by
    obtain ⟨q, hq, rfl⟩ := List.mem_map.mp ha
    exact ktn_ltOf h q hq
  refine key (key (key (key h ?_) ?_) ?_) ?_
  · intro a ha
    replace ha : a ∈ [S, dS, N2] ++ (nled l).map (·.1) := ha
    simp only [List.mem_cons, List.mem_append, List.not_mem_nil, or_false] at ha
    rcases ha with (rfl | rfl | rfl) | ha
    · exact l1.1
    · exact l1.2.1
    · exact l1.2.2.1
    · exact al l1.2.2.2 a ha
  · intro a ha
    rcases List.mem_cons.mp ha with rfl | ha
    · exact l2.1
    replace ha : a ∈ [S, dS, N2] ++ (nled l).map (·.1) := ha
    simp only [List.mem_cons, List.mem_append, List.not_mem_nil, or_false] at ha
    rcases ha with (rfl | rfl | rfl) | ha
    · exact l2.2.1
    · exact l2.2.2.1
    · exact l2.2.2.2.1
    · exact al l2.2.2.2.2 a ha
  · intro a ha
    rcases List.mem_cons.mp ha with rfl | ha
    · exact l3.1
    rcases List.mem_cons.mp ha with rfl | ha
    · exact l3.2.1
    replace ha : a ∈ [S, dS, N2] ++ (nled l).map (·.1) := ha
    simp only [List.mem_cons, List.mem_append, List.not_mem_nil, or_false] at ha
    rcases ha with (rfl | rfl | rfl) | ha
    · exact l3.2.2.1
    · exact l3.2.2.2.1
    · exact l3.2.2.2.2.1
    · exact al l3.2.2.2.2.2 a ha
  · intro a ha
    rcases List.mem_cons.mp ha with rfl | ha
    · exact l4.1
    rcases List.mem_cons.mp ha with rfl | ha
    · exact l4.2.1
    rcases List.mem_cons.mp ha with rfl | ha
    · exact l4.2.2.1
    replace ha : a ∈ [S, dS, N2] ++ (nled l).map (·.1) := ha
    simp only [List.mem_cons, List.mem_append, List.not_mem_nil, or_false] at ha
    rcases ha with (rfl | rfl | rfl) | ha
    · exact l4.2.2.2.1
    · exact l4.2.2.2.2.1
    · exact l4.2.2.2.2.2.1
    · exact al l4.2.2.2.2.2.2 a ha
end Mine
end

section
open PySem PySem.Spec PySem.Calls PySem.W PyProof.Rows PyProof.Rows.LCg PySem.SeqAt
set_option Elab.async false
set_option maxRecDepth 100000
set_option maxHeartbeats 2000000
set_option linter.unusedVariables false
namespace Mine
section
variable {M : Model} {K : Frag} {h : Heap}
theorem looks_matchV {e : Addr} {c ci : Value} {oe : Obj} {b : Bool} (X : K.In h) (he : h.get? e = some oe) (hc : oe.cls = c)
    (k1 : peek K ⟨M.prog, M.w.params⟩ (isInstance ci (.type "tuple")) = some false) (k2 : peek K ⟨M.prog, M.w.params⟩ (isExcClass ci) = some true)
    (k3 : peek K ⟨M.prog, M.w.params⟩ (isSubtype c ci) = some b) : Looks M h (excMatches (.ref e) ci) b := by
  intro A Q E s hs hq
  unfold excMatches
  refine wpAny_bind (Looks.of_peek X k1 _ _ _ _ hs ?_)
  rw [if_neg (by decide)]
  refine wpAny_bind (wpAny_pure ?_)
  simp only [List.forIn_cons, List.forIn_nil]
  refine wpAny_bind (wpAny_bind (wpAny_bind (Looks.of_peek X k2 _ _ _ _ hs ?_)))
  simp only [Bool.not_true, Bool.false_eq_true, if_false]
  refine wpAny_pure (wpAny_pure (wpAny_bind ?_))
  refine (show wpAny M A (typeOf (.ref e)) _ E s from ?_)
  unfold typeOf
  refine wpAny_bind (wpAny_loadPart (hs _ _ he) (wpAny_pure ?_))
  rw [hc]
  refine wpAny_bind (wpAny_bind (wpAny_bind (Looks.of_peek X k3 _ _ _ _ hs ?_)))
  cases b with
  | true => exact wpAny_pure (wpAny_pure (wpAny_pure hq))
  | false => exact wpAny_pure (wpAny_pure (wpAny_pure hq))
end
section
variable {prog : Program} {w : World} {A A₀ : Around} {E : Value → Shared → Prop} {s : Shared} {base g : Heap} {outer : List Env} {L e a : Addr} {c ci : Value} {m : Str → Option Value} {l rest : List (Addr × Obj)}
  {K : Frag} {p : Program} {loose : List Str} {mean : ExcName → Option Value} {mg mb : Str → Option Value} {name : Str} {scope : Scope} {cd : Value} {Q : Flow → Shared → Prop}
theorem handle_B {cn : Str} {np pos : Pos} {b₀ : Stmt} {suite : List Stmt} {x : Value}
    (B : Below A₀ base outer g) (F : Fr g L s.heap m) (N : News g L s.heap (l ++ rest)) (ap : ∀ p ∈ l, ∀ q ∈ rest, p.1 ≠ q.1) (hx : ExF e c x l) (X : K.In g) (T : Top p loose mean mg mb g)
    (hn : nsIn K mainGlobals cn = some none) (hb : bootBuiltins cn = some ci) (hnn : cn ≠ "__name__")
    (k1 : peek K ⟨prog, w.params⟩ (isInstance ci (.type "tuple")) = some false) (k2 : peek K ⟨prog, w.params⟩ (isExcClass ci) = some true)
    (k3 : peek K ⟨prog, w.params⟩ (isSubtype c ci) = some true)
    (hit : ∀ g' h' l', ExF e c .none l' → Slid (fra outer) g g' → Below A₀ base outer g' → Fr g' L h' m → News g' L h' (l' ++ rest) → (∀ p ∈ l', ∀ q ∈ rest, p.1 ≠ q.1) →
      wpAny (model prog w) (A.mark (some (.ref e))) (execs (b₀ :: suite) (envOf name scope L a cd)) Q (fun _ _ => False) { s with heap := h' })
    (hk : scope.kind = .function := by rfl) (hxk : (envOf name scope L a cd).kindOf cn = some .globalImplicit := by rfl) (hdb : (cn == ("__debug__" : Str)) = false := by decide) :
    wpAny (model prog w) A (handleBy (.ref e) (envOf name scope L a cd) [.ExceptHandler (some (.Name cn np)) none (b₀ :: suite) pos]) Q E s := by
  have hx' := hx
  refine hideG fun G0 k0 => ?_; obtain ⟨oe, vs, a0, T', oT, ts, c1, c2, c3, c4, c5, c6, c7, rfl⟩ := hx; refine k0 ?_; clear k0 G0
  have he : s.heap.get? e = some oe := (N (e, oe) (by simp)).1
  refine wpAny_handleBy_cons (codeAny_handlers_test (name_B F X (topRead_of T) hn hb hnn ?_ hk hxk hdb)) (by intro q; cases q)
  refine (looks_matchV (M := model prog w) (X.keeps F.keep) he c1 k1 k2 k3).here ?_
  refine codeAny_handlers_suite (flight_K (fr := none) (env := envOf name scope L a cd) B F N ap rfl hx' fun g' h' l' x1 x2 x3 x4 x5 x6 => ?_)
  exact wpAny_mono (hit g' h' l' x1 x2 x3 x4 x5 x6) (fun _ _ q => q) fun _ _ q => q.elim
end
section
variable {w : World} {base : Heap} {p : Program} {loose : List Str} {mean : ExcName → Option Value} {mg mb : Str → Option Value}
theorem refused_con (X : (k0.heap_1 w.params).In base) (T : Top p loose mean mg mb base) (S dS N2 : Addr) (d : Sd) (r : Value) (pv f : Int) (v : Value) (led : List (Addr × Obj)) (hS : (S, instObj 137 dS) ∈ led) (hd : (dS, sdict d N2 r pv f) ∈ led) (C : Con w base 120 [.ref S, v] 2 led (fun _ _ => False) (RefusedPost led)) :
    Con w base 359 [.ref S, v] 4 led (fun r l => r = .bool true ∧ l = led) (fun _ _ => False) := by
  k_with_none
  k_with "walk1" => first | (with_reducible refine Nx.next (by assumption) _ ?_; (try clear hN); (try clear Qc)) | (with_reducible refine Nx.ret (by assumption) ?_; (try clear hN); (try clear Qc)) | (with_reducible refine Nx.brk (by assumption) ?_; (try clear hN); (try clear Qc)) | (with_reducible refine Nx.cont (by assumption) ?_; (try clear hN); (try clear Qc))
  k_with "execs cons" => (refine execs_h fun Qc hN => ?_)
  k_with "call ref" => refine here ?_
  refine' Con.of (binds := [(Str.ofString "sorter", .ref S), (Str.ofString "place", v)]) X T ?ho ?hcd ?hb ?hl ?h ?c2 ?c3 ?c4 ?c5
  k_dflt ((case ho => k_is); (case hcd => k_is); (case hb => exact fun _ => BindsTo.of_eq rfl); (case hl => exact locs rfl); (case c2 => exact rfl); (case c3 => exact rfl); (case c4 => exact rfl); (case c5 => decide))
  intro dp envs gd un s g L h₁ tk hdp hun B Xg Tg F N hlt
  have N' : News g L h₁ ((S, instObj 137 dS) :: (dS, sdict d N2 r pv f) :: led) := fun q hq => by
    revert q; refine all_cons (N _ hS) ?_; refine all_cons (N _ hd) ?_; intro q hq; exact N _ hq
  clear N
  try k_fold
  k_steps
  refine here ?_
  refine Con.use (env := envOf (Str.ofString "_law_refused") _ L 359 (.ref 358)) (rest := []) C B F N' rfl rfl (dp_le (a := 3) hdp (by decide)) (un_le (a := 203) hun (by decide)) (fun q hq => .tail _ (.tail _ hq)) (fun q hq => nomatch hq) (fun _ _ _ _ _ h => h.elim) ?_
  intro e l g1 h1 tk1 hP1 S1 B1 F1 N1 _; refine hideG fun G0 k0 => ?_; obtain ⟨ea, le, rfl, hle, rfl, ap⟩ := hP1; refine k0 ?_; clear k0 G0
  rw [List.append_nil] at N1
  clear N' F Xg Tg
  refine try_note (s := { s with heap := h1, toks := tk1 }) B1 F1 N1 ap rfl rfl rfl hle fun g2 h2 l2 x2 S2 B2 F2 N2 ap2 => ?_
  refine handle_B (s := { s with heap := h2, toks := tk1 }) B2 F2 N2 ap2 x2 (X.keeps B2.stays) (T.keeps B2.stays) ?n1 (by boot_fast) (by decide) ?k1 ?k2 ?k3 fun g3 h3 l3 x3 S3 B3 F3 N3 ap3 => ?_
  case n1 => k_dflt k_is
  case k1 => kernel_rfl
  case k2 => kernel_rfl
  case k3 => kernel_rfl
  k_steps
  show BodyQ g L envs s _ (.ret (.bool true)) _
  exact ⟨g3, _, _, h3, _, rfl, (S1.trans S2).trans S3, F3, news_sub N3 (fun q hq => List.mem_append_right _ hq), rfl, rfl⟩
end
end Mine
end

section
open PySem PySem.Spec PySem.Calls PySem.W PyProof.Rows PyProof.Rows.LCg PySem.SeqAt
set_option Elab.async false
set_option maxRecDepth 100000
set_option maxHeartbeats 1000000
set_option linter.unusedVariables false
namespace Mine
theorem adv_snoc (ns : List Pn) (lvs : List Lv) (v : Lv) : adv ns (lvN (lvs ++ [v])) = match (suOf ns v.node)[v.i]? with
    | some x => some (x, (v.node, v.i + 1) :: lvN lvs)
    | none => adv ns (lvN lvs) := by rw [lvN_snoc]; rfl
noncomputable def AdvTo (ns : List Pn) (n : Nat) (lvs : List Lv) (seen seen' : List Int) : Prop := match adv ns (lvN lvs) with
  | none => seen = seen'
  | some (v', st') => ∃ f, f < n ∧ dfs ns f v' st' seen = some seen'
theorem dfs_seen {ns : List Pn} {n : Nat} {node : Int} {lvs : List Lv} {seen seen' : List Int} (h : dfs ns n node (lvN lvs) seen = some seen') (hs : node ∈ seen) : node ∉ lvs.map (·.node) ∧ AdvTo ns n lvs seen seen' := by
  cases n with
  | zero => cases h
  | succ n =>
    have hm : (lvN lvs).map (·.1) = (lvs.map (·.node)).reverse := by simp [lvN]
    simp only [dfs] at h
    rw [if_pos hs, hm] at h
    by_cases e : node ∈ (lvs.map (·.node)).reverse
    · rw [if_pos e] at h; cases h
    · rw [if_neg e] at h
      refine ⟨fun hm => e (List.mem_reverse.mpr hm), ?_⟩
      unfold AdvTo
      split at h
      · rename_i e; first | (rw [e]; exact Option.some.inj h) | exact Option.some.inj h
      · rename_i v' st' e; first | (rw [e]; exact ⟨n, Nat.lt_succ_self n, h⟩) | exact ⟨n, Nat.lt_succ_self n, h⟩
theorem dfs_new {ns : List Pn} {n : Nat} {v : Lv} {lvs : List Lv} {seen seen' : List Int} (h : dfs ns n v.node (lvN lvs) seen = some seen') (hs : v.node ∉ seen) (hi : v.i = 0) : AdvTo ns n (lvs ++ [v]) (seen ++ [v.node]) seen' := by
  cases n with
  | zero => cases h
  | succ n =>
    simp only [dfs] at h
    rw [if_neg hs] at h
    unfold AdvTo
    rw [lvN_snoc, hi]
    split at h
    · rename_i e; first | (rw [e]; exact Option.some.inj h) | exact Option.some.inj h
    · rename_i v' st' e; first | (rw [e]; exact ⟨n, Nat.lt_succ_self n, h⟩) | exact ⟨n, Nat.lt_succ_self n, h⟩
theorem CAt.uncons {w : World} {l : List Nd} {ns : List Pn} {I : Addr} {X : List Addr} {lvs : List Lv} {seen : List Int} {oD oS : Obj} {kd : List (Int × Value)} (h : CAt w l ns (I :: X) lvs seen oD oS kd) : CAt w l ns X lvs seen oD oS kd ∧ I ∉ X ++ (lvled lvs ++ nled l).map (·.1) :=
  ⟨⟨h.dict, h.keys, h.set, h.sn, h.sk, h.sub, h.lv, h.nd, (List.nodup_cons.mp h.ap).2⟩, (List.nodup_cons.mp h.ap).1⟩
theorem CAt.cons {w : World} {l : List Nd} {ns : List Pn} {I : Addr} {X : List Addr} {lvs : List Lv} {seen : List Int} {oD oS : Obj} {kd : List (Int × Value)} (h : CAt w l ns X lvs seen oD oS kd) (hI : I ∉ X ++ (lvled lvs ++ nled l).map (·.1)) : CAt w l ns (I :: X) lvs seen oD oS kd :=
  ⟨h.dict, h.keys, h.set, h.sn, h.sk, h.sub, h.lv, h.nd, List.nodup_cons.mpr ⟨hI, h.ap⟩⟩
inductive CycO (w : World) (ns : List Pn) (fuel : Nat) (D4 SE IT ST S dS N2 : Addr) (d : Sd) (r : Value) (pv f : Int) (oN : Obj) (l : List Nd) (i : Nat) (m' : Str → Option Value) (led : List (Addr × Obj)) : Prop
  | mk (o : Option Value) (seen : List Int) (oD oS : Obj) (kd : List (Int × Value)) (n1 n2 : Nat) (em : m' = cycM D4 SE IT ST N2 S o) (e : led = cycL D4 SE IT ST S dS N2 d r pv f oN oD oS n1 n2 [] l) (hC : CAt w l ns [D4, SE, IT, ST, S, dS, N2] [] seen oD oS kd) (hc : (cyc ns fuel ((keysN ns).drop i) seen).isSome = true) : CycO w ns fuel D4 SE IT ST S dS N2 d r pv f oN l i m' led
inductive CycI (w : World) (ns : List Pn) (seen' : List Int) (I : Addr) (oI : Obj) (D4 SE IT ST S dS N2 : Addr) (d : Sd) (r : Value) (pv f : Int) (oN : Obj) (l : List Nd) (n : Nat) (m' : Str → Option Value) (led : List (Addr × Obj)) : Prop
  | mk (node : Int) (nt : Tok) (lvs : List Lv) (seen : List Int) (oD oS : Obj) (kd : List (Int × Value)) (n1 n2 : Nat) (em : m' = cycM D4 SE IT ST N2 S (some (.int node nt))) (e : led = (I, oI) :: cycL D4 SE IT ST S dS N2 d r pv f oN oD oS n1 n2 lvs l) (hC : CAt w l ns [I, D4, SE, IT, ST, S, dS, N2] lvs seen oD oS kd) (hk : node ∈ keysN ns) (hd : dfs ns n node (lvN lvs) seen = some seen') : CycI w ns seen' I oI D4 SE IT ST S dS N2 d r pv f oN l n m' led
inductive CycC (w : World) (ns : List Pn) (seen' : List Int) (n : Nat) (node : Int) (nt : Tok) (I : Addr) (oI : Obj) (D4 SE IT ST S dS N2 : Addr) (d : Sd) (r : Value) (pv f : Int) (oN : Obj) (l : List Nd) (m' : Str → Option Value) (led : List (Addr × Obj)) : Prop
  | mk (em : m' = cycM D4 SE IT ST N2 S (some (.int node nt))) (lvs : List Lv) (seen : List Int) (oD oS : Obj) (kd : List (Int × Value)) (n1 n2 : Nat) (e : led = (I, oI) :: cycL D4 SE IT ST S dS N2 d r pv f oN oD oS n1 n2 lvs l) (hC : CAt w l ns [I, D4, SE, IT, ST, S, dS, N2] lvs seen oD oS kd) (ha : AdvTo ns n lvs seen seen') : CycC w ns seen' n node nt I oI D4 SE IT ST S dS N2 d r pv f oN l m' led
section
variable {w : World} {base : Heap} {p : Program} {loose : List Str} {mean : ExcName → Option Value} {mg mb : Str → Option Value}
theorem cycle_con (X : (k0.heap_1 w.params).In base) (T : Top p loose mean mg mb base) (S dS N2 : Addr) (d : Sd) (r : Value) (pv f : Int) (oN : Obj) (l : List Nd) (ns : List Pn) (hdict : oN.IsDictOf (PySem.intKind PySem.Challenge.rw_ny0334_01.prog w) (kvOf l)) (hlow : (N2 == sysModules) = false) (hrp : Rp l ns) (hap0 : Ap [S, dS, N2] l) (hnd0 : (keysN ns).Nodup) (hsu : ∀ k ∈ keysN ns, ∀ j ∈ suOf ns k, j ∈ keysN ns) (hsz : ns.length ≤ 4) (fuel : Nat) (hok : (cyc ns fuel (keysN ns) []).isSome = true) :
    Con w base 127 [.ref S] 3 ((S, instObj 137 dS) :: (dS, sdict d N2 r pv f) :: (N2, oN) :: nled l) (fun v led => v = .none ∧ led = (S, instObj 137 dS) :: (dS, sdict d N2 r pv f) :: (N2, oN) :: nled l) (fun _ _ => False) := by
  k_with_none
  k_with "exec For Name Name cons nil" => refine here ?_
  k_with "exec While" => refine here ?_
  k_with "k_all" => (refine' allLt_ne ?h ?x; (case h => tbn_find); (case x => omega))
  k_with "k_all" => assumption
  k_with "compareOp In int ref" => (k_here; k_dflt (refine' dict_in false ?N ?m ?s ?b ?v ?_; (case N => k_asm); (case m => k_mem); (case s => assumption); (case b => assumption); (case v => assumption); k_whole))
  k_with "compareOp In int ref" => (k_here; k_dflt (refine' set_in ?N ?m ?s ?b ?_; (case N => k_asm); (case m => k_mem); (case s => assumption); (case b => assumption); k_whole))
  k_with "getMethod ref" => (k_here; (with_reducible show wpAny _ _ (getMethod (Value.ref _) (Str.ofString "add") _) _ _ _); k_dflt (refine' set_method ?N ?m ?s ?b ?_; (case N => k_asm); (case m => k_mem); (case s => assumption); (case b => assumption); k_whole))
  k_with "call builtin:set.add" => refine here ?_
  k_with "subscriptTail" => refine here ?_
  k_with "getAttr ref" => ((with_reducible show wpAny _ _ (getAttr (Value.ref _) (Str.ofString "__next__") _) _ _ _); refine here ?_)
  k_with "call builtin:len" => refine here ?_
  k_with "setItem ref int" => refine here ?_
  k_with "call builtin:list.append" => refine here ?_
  k_with "call builtin:list.pop" => refine here ?_
  k_with "call builtin:iter" => refine here ?_
  k_with "truthy ref" => refine here ?_
  k_with "delItem ref int" => refine here ?_
  refine' Con.of (binds := [(Str.ofString "self", .ref S)]) X T ?ho ?hcd ?hb ?hl ?h ?c2 ?c3 ?c4 ?c5
  k_dflt ((case ho => k_is); (case hcd => k_is); (case hb => exact fun _ => BindsTo.of_eq rfl); (case hl => exact locs rfl); (case c2 => exact rfl); (case c3 => exact rfl); (case c4 => exact rfl); (case c5 => decide))
  intro dp envs gd un s g L h₁ tk hdp hun B Xg Tg F N hlt
  try k_fold
  k_steps
  refine for_E ?_ (fun _ => rfl)
  k_steps
  rename_i ST h5 l1 h4 tk1 IT h3 l2 h2 SE h1' ldb hs3 hz3 l3 h0' D4 h20 oD lo4 hs4 fs4 hi4 fi4 l4 h21 F21 N21
  refine for_L (L := L) (source_keys (by rfl) F21 N21 (by k_mem) hdict hlow) (fun q hq => by rw [List.mem_singleton.mp hq]; k_mem)
    (CycO w ns fuel D4 SE IT ST S dS N2 d r pv f oN l) ?_ B ?_ ?_ ?_ rfl rfl rfl
  · intro i m' led hP1 q hq; refine hideG fun G0 k0 => ?_; obtain ⟨o, seen, oD, oS, kd, n1, n2, _, rfl, _⟩ := hP1; refine k0 ?_; clear k0 G0
    rw [List.mem_singleton.mp hq]; k_mem
  · refine ⟨none, [], oD, _, [], 0, 0, funext fun y => ?_, rfl, ⟨hi4, rfl, hs3, .nil, (fun _ h => nomatch h), (fun _ h => nomatch h), (fun _ h => nomatch h), .nil, nd_order hap0 l1 l2 l3 l4⟩, hok⟩
    by_cases e : y = Str.ofString "node"
    · subst e; rfl
    · show _ = if y = Str.ofString "node" then none else _
      rw [if_neg e]
  · intro I i v g' m' led o h tk' hi hP1 hP2 Sl B' F' N' hI; refine hideG fun G0 k0 => ?_; obtain ⟨k, x, t, hkx, rfl⟩ := hP1; obtain ⟨ov, seen, oD', oS, kd, n1, n2, rfl, rfl, hC, hcyc⟩ := hP2; refine k0 ?_; clear k0 G0
    clear F21 N21 Xg Tg
    have Xg := X.keeps B'.stays
    have Tg := T.keeps B'.stays
    have hset := hC.set
    have hcb : seen.length < scanBound := Nat.lt_of_le_of_lt (hC.small hsz).1 (by decide)
    delta cycM at F'
    try k_fold
    have hkk : (keysN ns).drop i = k :: (keysN ns).drop (i + 1) := by
      rw [← hrp.keys, ← kv_keys l]
      have : ((kvOf l).map (·.1))[i]? = some k := by rw [List.getElem?_map, hkx]; rfl
      obtain ⟨hlt, e⟩ := List.getElem?_eq_some_iff.mp this
      rw [List.drop_eq_getElem_cons hlt, e]
    rw [hkk] at hcyc
    refine hideQ fun Q1 E1 hQ1 hE1 => ?_
    k_steps
    · rename_i hseen
      refine hQ1 _ _ ?_
      show Goes envs g' L _ _ _
      refine ⟨g', _, _, _, _, rfl, Slid.refl .., by assumption, by assumption, _, rfl, ⟨some (.int k t), seen, oD', oS, kd, n1, n2, cycM_set, rfl, hC, ?_⟩, hI⟩
      simp only [cyc] at hcyc
      rwa [if_pos hseen] at hcyc
    · rename_i hseen
      simp only [cyc] at hcyc
      rw [if_neg hseen] at hcyc
      obtain ⟨seen', hdfs⟩ : ∃ seen', dfs ns fuel k [] seen = some seen' := by
        cases e : dfs ns fuel k [] seen with
        | none => rw [e] at hcyc; cases hcyc
        | some x => exact ⟨x, rfl⟩
      rw [hdfs] at hcyc
      refine while_H (L := L) (n := fuel) (CycI w ns seen' I o D4 SE IT ST S dS N2 d r pv f oN l) B' (by assumption) (by assumption) ?_ ?_
      · refine ⟨k, t, [], seen, oD', oS, kd, n1, n2, cycM_set, rfl, hC.cons fun hm => ?_, ?_, hdfs⟩
        · have : I ∈ (cycL D4 SE IT ST S dS N2 d r pv f oN oD' oS n1 n2 [] l).map (·.1) := hm
          refine hideG fun G0 k0 => ?_; obtain ⟨q, hq, e⟩ := List.mem_map.mp this; refine k0 ?_; clear k0 G0
          exact hI q hq e
        · exact List.mem_of_mem_drop (i := i) (by rw [hkk]; exact .head _)
      · intro Qn Qo n g2 m' led h2 tk2 hP1 S2 B2 F2 N2' hQn hQb hQr hQo; refine hideG fun G0 k0 => ?_; obtain ⟨node, nt, lvs, seen2, oD2, oS2, kd2, n12, n22, rfl, rfl, hC2, hnk2, hd2⟩ := hP1; refine k0 ?_; clear k0 G0
        clear Xg Tg
        have Xg := X.keeps B2.stays
        have Tg := T.keeps B2.stays
        clear hset hcb
        have hset := hC2.set
        have hcb : seen2.length < scanBound := Nat.lt_of_le_of_lt (hC2.small hsz).1 (by decide)
        delta cycM at F2
        refine true_test ?_
        rw [if_pos rfl]
        have hnd := hC2.ap
        refine seq_cut (Goes envs g2 L s (CycC w ns seen' n node nt I o D4 SE IT ST S dS N2 d r pv f oN l)) ?_ ?_
        · refine hideQ fun Q2 E2 hQ2 hE2 => ?_
          by_cases hsn : node ∈ seen2
          · obtain ⟨hn1, ha1⟩ := dfs_seen hd2 hsn
            have hdd := hC2.dict
            have hvn : (valueAt kd2 node).isSome = false := by rw [valueAt_some, hC2.keys]; simpa using hn1
            k_steps
            rotate_left
            · exact absurd hsn (by assumption)
            refine hQ2 _ _ ⟨rfl, ?_⟩
            exact ⟨g2, _, _, _, _, rfl, Slid.refl .., by assumption, by assumption, rfl, lvs, seen2, oD2, oS2, kd2, n12, n22, rfl, hC2, ha1⟩
          · have hcb1 : seen2.length + 1 < scanBound := Nat.lt_of_le_of_lt (Nat.succ_le_succ (hC2.small hsz).1) (by decide)
            k_steps
            change wpAny _ _ _ _ _ _
            refine kse_add (knd := PySem.intKind _ _) F2 N2' (updF_at [(I, o), (D4, oD2)] hnd) hset hcb1 (intKind_is _ _ _ _) rfl fun h3 so3 F3 N3 hset3 => ?_
            clear F2 N2'
            simp only [List.cons_append, List.nil_append] at N3
            obtain ⟨la, nd, lb, hl0, hnk, hnk1⟩ := nd_split (l := l) (k := node) (by rw [hrp.keys]; exact hnk2)
            have hv : valueAt (kvOf l) node = some (.ref nd.ia) := by rw [hl0, ← hnk]; exact kv_at (by rw [hnk]; exact hnk1)
            have hndm : nd ∈ l := by rw [hl0]; simp
            have tl : ∀ q ∈ nled l, q ∈ (I, o) :: (D4, oD2) :: (SE, so3) :: (IT, W.listOf (itv lvs).toArray n12) :: (ST, W.listOf (stv lvs).toArray n22) :: (S, instObj 137 dS) :: (dS, sdict d N2 r pv f) :: (N2, oN) :: (lvled lvs ++ nled l) := fun q hq => .tail _ (.tail _ (.tail _ (.tail _ (.tail _ (.tail _ (.tail _ (.tail _ (List.mem_append_right _ hq))))))))
            have mem2 := tl _ (List.mem_flatMap.mpr ⟨nd, hndm, .tail _ (.tail _ (.head _))⟩ : (nd.sa, W.listOf nd.vs.toArray nd.ct) ∈ nled l)
            have N3d : News g2 L h3 ((nd.ia, nd.obj) :: (nd.da, emptyDict) :: (I, o) :: (D4, oD2) :: (SE, so3) :: (IT, W.listOf (itv lvs).toArray n12) :: (ST, W.listOf (stv lvs).toArray n22) :: (S, instObj 137 dS) :: (dS, sdict d N2 r pv f) :: (N2, oN) :: (lvled lvs ++ nled l)) := fun q hq => by
              revert q; refine all_cons (N3 _ (tl _ (List.mem_flatMap.mpr ⟨nd, hndm, .head _⟩))) ?_; refine all_cons (N3 _ (tl _ (List.mem_flatMap.mpr ⟨nd, hndm, .tail _ (.head _)⟩))) ?_; intro q hq; exact N3 _ hq
            k_steps
            change wpAny _ _ _ _ _ _
            refine kda_item (knd := PySem.intKind _ _) N3 (by k_mem) hdict (intKind_is _ _ _ _) hv ?_
            dsimp only
            k_steps
            change wpAny _ _ _ _ _ _
            refine iter_K F3 N3 mem2 fun ja h4 F4 N4 l4' => ?_
            clear N3d
            dsimp only
            k_steps
            change wpAny _ _ _ _ _ _
            refine next_attr F4 N4 (.head _) rfl rfl ⟨_, rfl⟩ fun ma h5 tk5 F5 N5 l5' => ?_
            have hnd5 : (((ma, wrapObj ja) :: (ja, itObj nd.sa 0) :: (I, o) :: (D4, oD2) :: (SE, so3) :: (IT, W.listOf (itv lvs).toArray n12) :: (ST, W.listOf (stv lvs).toArray n22) :: (S, instObj 137 dS) :: (dS, sdict d N2 r pv f) :: (N2, oN) :: (lvled lvs ++ nled l)).map (·.1)).Nodup := nd_new (nd_new hnd l4') l5'
            have hlv := (hC2.small hsz).2.1
            k_steps
            change wpAny _ _ _ _ _ _
            refine append_K F5 N5 (upd_at [(ma, wrapObj ja), (ja, itObj nd.sa 0), (I, o), (D4, oD2), (SE, so3)] hnd5) (fun h6 F6 N6 => ?_) (by rw [List.size_toArray, itv, List.length_map]; exact Nat.le_trans hlv (by decide))
            clear F3 N3 F4 N4 F5 N5
            simp only [List.cons_append, List.nil_append] at N6
            dsimp only
            k_steps
            change wpAny _ _ _ _ _ _
            refine PyProof.Rows.len_list (listAt (vs := stv lvs) (k := n22) N6 (by k_mem)) (by rw [List.size_toArray, stv, List.length_map]; omega) ?_
            dsimp only
            k_steps
            change wpAny _ _ _ _ _ _
            refine kda_set (knd := PySem.intKind _ _) F6 N6 (updF_at [(ma, wrapObj ja), (ja, itObj nd.sa 0), (I, o)] hnd5) hC2.dict (intKind_is _ _ _ _) (Nat.le_trans (hC2.small hsz).2.2 (by decide)) fun h7 oD7 F7 N7 hd7 => ?_
            clear F6 N6
            simp only [List.cons_append, List.nil_append] at N7
            dsimp only
            k_steps
            change wpAny _ _ _ _ _ _
            refine append_K F7 N7 (upd_at [(ma, wrapObj ja), (ja, itObj nd.sa 0), (I, o), (D4, oD7), (SE, so3), (IT, _)] hnd5) (fun h8 F8 N8 => ?_) (by rw [List.size_toArray, stv, List.length_map]; exact Nat.le_trans hlv (by decide))
            clear F7 N7
            simp only [List.cons_append, List.nil_append] at N8
            dsimp only
            k_steps
            refine hQ2 _ _ ⟨rfl, ?_⟩
            refine ⟨g2, _, _, h8, _, rfl, Slid.refl .., F8, news_sub N8 (b := (I, o) :: cycL D4 SE IT ST S dS N2 d r pv f oN oD7 so3 (n12 + 1) (n22 + 1) (lvs ++ [⟨node, nt, ma, ja, nd.sa, 0⟩]) l) ?_, rfl, lvs ++ [⟨node, nt, ma, ja, nd.sa, 0⟩], seen2 ++ [node], oD7, so3, _, n12 + 1, n22 + 1, rfl, hC2.push (v := ⟨node, nt, ma, ja, nd.sa, 0⟩) (nd := nd) hsn hnk2 hndm hnk rfl hd7 hset3 ?_, dfs_new (v := ⟨node, nt, ma, ja, nd.sa, 0⟩) hd2 hsn rfl⟩
            · intro q hq
              rw [show (itv lvs).toArray.push (.ref ma) = (itv (lvs ++ [⟨node, nt, ma, ja, nd.sa, 0⟩])).toArray by simp [itv_snoc], show (stv lvs).toArray.push (.int node nt) = (stv (lvs ++ [⟨node, nt, ma, ja, nd.sa, 0⟩])).toArray by simp [stv_snoc]]
              rw [cycL, lvled_snoc] at hq
              exact (mem_lv (C := [(I, o), (D4, oD7), (SE, so3), (IT, _), (ST, _), (S, instObj 137 dS), (dS, sdict d N2 r pv f), (N2, oN)])).mp hq
            · have := nd_level (X := [I, D4, SE, IT, ST, S, dS, N2]) (A := lvled lvs) (B := nled l) (o1 := wrapObj ja) (o2 := itObj nd.sa 0) hnd (fun a ha => ?_) (l5' _ (.head _))
              · rw [show lvled (lvs ++ [⟨node, nt, ma, ja, nd.sa, 0⟩]) = lvled lvs ++ [(ma, wrapObj ja), (ja, itObj nd.sa 0)] by simp [lvled]]; exact this
              · have : a ∈ ((I, o) :: (D4, oD2) :: (SE, so3) :: (IT, W.listOf (itv lvs).toArray n12) :: (ST, W.listOf (stv lvs).toArray n22) :: (S, instObj 137 dS) :: (dS, sdict d N2 r pv f) :: (N2, oN) :: (lvled lvs ++ nled l)).map (·.1) := ha
                refine hideG fun G0 k0 => ?_; obtain ⟨q, hq, rfl⟩ := List.mem_map.mp this; refine k0 ?_; clear k0 G0
                exact l4' q hq
        · intro s3 hP1; refine hideG fun G0 k0 => ?_; obtain ⟨g3, m3, led3, h3, tk3, rfl, S3, F3, N3, rfl, lvs3, seen3, oD3, oS3, kd3, n13, n23, rfl, hC3, hadv⟩ := hP1; refine k0 ?_; clear k0 G0
          clear Xg Tg F2 N2' hset hcb hC2 hnd
          have B3 := below_slid B2 S3
          have Xg := X.keeps B3.stays
          have Tg := T.keeps B3.stays
          k_steps
          refine while_H (L := L) (n := lvs3.length) (fun k m' led => m' = cycM D4 SE IT ST N2 S (some (.int node nt)) ∧ ∃ lvs seen oD oS kd n1 n2, k = lvs.length ∧ led = (I, o) :: cycL D4 SE IT ST S dS N2 d r pv f oN oD oS n1 n2 lvs l ∧ CAt w l ns [I, D4, SE, IT, ST, S, dS, N2] lvs seen oD oS kd ∧ AdvTo ns n lvs seen seen') B3 F3 N3 ⟨rfl, lvs3, seen3, oD3, oS3, kd3, n13, n23, rfl, rfl, hC3, hadv⟩ ?_
          clear F3 N3 hC3 hadv Xg Tg
          intro Qn2 Qo2 k2 g4 m' led h4 tk4 hP1 S4 B4 F4 N4 hQn2 hQb2 hQr2 hQo2; refine hideG fun G0 k0 => ?_; obtain ⟨rfl, lvs4, seen4, oD4, oS4, kd4, n14, n24, rfl, rfl, hC4, hadv⟩ := hP1; refine k0 ?_; clear k0 G0
          have Xg := X.keeps B4.stays
          have Tg := T.keeps B4.stays
          delta cycM at F4
          have hnd := hC4.ap
          rcases List.eq_nil_or_concat lvs4 with rfl | ⟨lv5, v5, rfl⟩
          · k_steps
            change wpAny _ _ _ _ _ _
            refine wpAny_truthy_list (listAt (vs := []) (k := n24) N4 (by k_mem)) (by decide) ?_
            dsimp only
            k_steps
            show Qo2 .brk _
            refine hQo2 _ _ ?_
            show Qn .brk _
            refine hQb _ ?_
            k_steps
            refine hQ1 _ _ ?_
            show Goes envs g' L _ _ _
            obtain ⟨hC5, hI5⟩ := hC4.uncons
            obtain rfl : seen4 = seen' := hadv
            refine ⟨g4, _, (I, o) :: cycL D4 SE IT ST S dS N2 d r pv f oN oD4 oS4 n14 n24 [] l, h4, _, rfl, S2.trans (S3.trans S4), F4, N4, _, rfl, ⟨some (.int node nt), seen4, oD4, oS4, kd4, n14, n24, rfl, rfl, hC5, hcyc⟩, fun q hq e => hI5 ?_⟩
            have : q.1 ∈ (cycL D4 SE IT ST S dS N2 d r pv f oN oD4 oS4 n14 n24 [] l).map (·.1) := List.mem_map_of_mem hq
            rw [e] at this
            exact this
          · rw [List.concat_eq_append] at *
            k_steps
            change wpAny _ _ _ _ _ _
            refine truthy_snoc (p := stv lv5) (y := .int v5.node v5.nt) (c := n24) N4 (by rw [← stv_snoc]; k_mem) (by rw [stv, List.length_map]; have := (hC4.small hsz).2.1; rw [List.length_append] at this; omega) fun tk5 => ?_
            dsimp only
            k_steps
            change wpAny _ _ _ _ _ _
            refine item_last (p := itv lv5) (y := .ref v5.ma) (k := n14) N4 (by rw [← itv_snoc]; k_mem) (by rw [itv, List.length_map]; have := (hC4.small hsz).2.1; rw [List.length_append] at this; omega) ?_
            dsimp only
            k_steps
            have N5 : News g4 L h4 ((v5.ma, wrapObj v5.ja) :: (v5.ja, itObj v5.sa v5.i) :: (I, o) :: (D4, oD4) :: (SE, oS4) :: (IT, W.listOf (itv (lv5 ++ [v5])).toArray n14) :: (ST, W.listOf (stv (lv5 ++ [v5])).toArray n24) :: (S, instObj 137 dS) :: (dS, sdict d N2 r pv f) :: (N2, oN) :: (lvled lv5 ++ nled l)) := news_sub N4 fun q hq => by
              rw [cycL, lvled_snoc]
              exact (mem_lv (C := [(I, o), (D4, oD4), (SE, oS4), (IT, _), (ST, _), (S, instObj 137 dS), (dS, sdict d N2 r pv f), (N2, oN)])).mpr hq
            have hnd5 : ((v5.ma :: v5.ja :: ([I, D4, SE, IT, ST, S, dS, N2] ++ (lvled lv5 ++ nled l).map (·.1)))).Nodup := by
              rw [lvled_snoc] at hnd
              exact nd_front hnd
            refine hideG fun G0 k0 => ?_; obtain ⟨nd, hndm, hk5, hs5⟩ := hC4.lv v5 (by simp); refine k0 ?_; clear k0 G0
            have hmem5 : (v5.sa, W.listOf nd.vs.toArray nd.ct) ∈ nled l := by rw [← hs5]; exact List.mem_flatMap.mpr ⟨nd, hndm, .tail _ (.tail _ (.head _))⟩
            have hint5 : IntsAre nd.vs (suOf ns v5.node) := by
              have hkn : nd.key ∈ l.map (·.key) := List.mem_map_of_mem hndm
              refine hideG fun G0 k0 => ?_; obtain ⟨l1, nd', l2, hl', e1, e2⟩ := nd_split hkn; refine k0 ?_; clear k0 G0
              have hu : nd' = nd := nd_uniq (by rw [hrp.keys]; exact hnd0) (by rw [hl']; simp) hndm e1
              subst hu
              rw [← hk5]
              exact (Rp.split (hl' ▸ hrp) e2).2
            have hkv5 : v5.node ∈ keysN ns := hC4.sk _ (hC4.sub v5 (by simp))
            clear N4
            change wpAny _ _ _ _ _ _
            refine callWith_W N5 (.head _) ?_
            unfold AdvTo at hadv
            rw [adv_snoc] at hadv
            cases hx : (suOf ns v5.node)[v5.i]? with
            | some x =>
              obtain ⟨tx, hvx⟩ := ints_get hint5 hx
              refine next_item_K F4 N5 (.head _) (upd_at [(v5.ma, wrapObj v5.ja)] hnd5) (.tail _ (.tail _ (.tail _ (.tail _ (.tail _ (.tail _ (.tail _ (.tail _ (.tail _ (.tail _ (List.mem_append_right _ hmem5))))))))))) hvx fun h6 F6 N6 => ?_
              clear F4 N5
              simp only [List.cons_append, List.nil_append] at N6
              dsimp only
              k_steps
              show Qn2 .brk _
              refine hQb2 _ ?_
              k_steps
              refine hQn _ ?_
              rw [hx] at hadv
              refine hideG fun G0 k0 => ?_; obtain ⟨f', hf', hdf⟩ := hadv; refine k0 ?_; clear k0 G0
              rename_i h7 F7 N7
              refine ⟨g4, _, (I, o) :: cycL D4 SE IT ST S dS N2 d r pv f oN oD4 oS4 n14 n24 (lv5 ++ [{ v5 with i := v5.i + 1 }]) l, _, _, rfl, S3.trans S4, F7, news_sub N7 ?_, f', hf', x, tx, lv5 ++ [{ v5 with i := v5.i + 1 }], seen4, oD4, oS4, kd4, n14, n24, cycM_set, rfl, hC4.step, hsu v5.node hkv5 x (List.mem_of_getElem? hx), ?_⟩
              · intro q hq
                rw [cycL, lvled_snoc, show itv (lv5 ++ [{ v5 with i := v5.i + 1 }]) = itv (lv5 ++ [v5]) by simp [itv_snoc], show stv (lv5 ++ [{ v5 with i := v5.i + 1 }]) = stv (lv5 ++ [v5]) by simp [stv_snoc]] at hq
                exact (mem_lv (C := [(I, o), (D4, oD4), (SE, oS4), (IT, _), (ST, _), (S, instObj 137 dS), (dS, sdict d N2 r pv f), (N2, oN)])).mp hq
              · rw [lvN_snoc]; exact hdf
            | none =>
              refine next_stop_K rfl F4 N5 (.head _) (upd_at [(v5.ma, wrapObj v5.ja)] hnd5) (.tail _ (.tail _ (.tail _ (.tail _ (.tail _ (.tail _ (.tail _ (.tail _ (.tail _ (.tail _ (List.mem_append_right _ hmem5))))))))))) (ints_none hint5 hx) fun h6 h7 e7 tk7 F6 N6 hx6 => ?_
              clear F4 N5
              simp only [List.cons_append, List.nil_append] at N6
              refine hideG fun G0 k0 => ?_; obtain ⟨oe, F7, N7, x7, ap7⟩ := exc_new F6 (news_sub N6 (b := (I, o) :: (D4, oD4) :: (SE, oS4) :: (IT, W.listOf (itv (lv5 ++ [v5])).toArray n14) :: (ST, W.listOf (stv (lv5 ++ [v5])).toArray n24) :: (S, instObj 137 dS) :: (dS, sdict d N2 r pv f) :: (N2, oN) :: (lvled lv5 ++ nled l)) fun q hq => .tail _ (.tail _ hq)) hx6; refine k0 ?_; clear k0 G0
              refine try_note (s := { s with heap := h7, toks := tk7 }) B4 F7 N7 ap7 rfl rfl rfl x7 fun g8 h8 l8 x8 S8 B8 F8 N8 ap8 => ?_
              refine handle_B (s := { s with heap := h8, toks := tk7 }) B8 F8 N8 ap8 x8 (X.keeps B8.stays) (T.keeps B8.stays) ?hn (ci := .type "StopIteration") (by kernel_rfl) (by decide) ?kk1 ?kk2 ?kk3 fun g9 h9 l9 x9 S9 B9 F9 N9 ap9 => ?_
              case hn => k_dflt k_is
              case kk1 => kernel_rfl
              case kk2 => kernel_rfl
              case kk3 => kernel_rfl
              clear F7 N7 F8 N8 F6 N6 Xg Tg
              have Xg := X.keeps B9.stays
              have Tg := T.keeps B9.stays
              replace N9 := news_sub N9 fun q hq => List.mem_append_right _ hq
              have hndC : ([I, D4, SE, IT, ST, S, dS, N2] ++ (lvled lv5 ++ nled l).map (·.1)).Nodup := (List.nodup_cons.mp (List.nodup_cons.mp hnd5).2).2
              have hl5 : lv5.length + 1 ≤ 4 := by have := (hC4.small hsz).2.1; rw [List.length_append] at this; exact this
              k_steps
              change wpAny _ _ _ _ _ _
              refine kl_pop (p := stv lv5) (y := .int v5.node v5.nt) F9 N9 (by rw [List.toList_toArray, stv_snoc]; exact kpa_last _ _) (upd_at [(I, o), (D4, oD4), (SE, oS4), (IT, _)] hndC) (by rw [List.toList_toArray, stv, List.length_map, List.length_append]; exact Nat.le_trans hl5 (by decide)) fun h10 F10 N10 => ?_
              clear F9 N9
              simp only [List.cons_append, List.nil_append] at N10
              dsimp only
              k_steps
              change wpAny _ _ _ _ _ _
              refine kob_del (knd := PySem.intKind _ _) F10 N10 (updF_at [(I, o)] hndC) hC4.dict (intKind_is _ _ _ _) (by rw [valueAt_some, hC4.keys]; simp) (Nat.le_trans (hC4.small hsz).2.2 (by decide)) fun h11 oD11 F11 N11 hd11 => ?_
              clear F10 N10
              simp only [List.cons_append, List.nil_append] at N11
              dsimp only
              k_steps
              change wpAny _ _ _ _ _ _
              refine kl_pop (p := itv lv5) (y := .ref v5.ma) F11 N11 (by rw [List.toList_toArray, itv_snoc]; exact kpa_last _ _) (upd_at [(I, o), (D4, oD11), (SE, oS4)] hndC) (by rw [List.toList_toArray, itv, List.length_map, List.length_append]; exact Nat.le_trans hl5 (by decide)) fun h12 F12 N12 => ?_
              clear F11 N11
              simp only [List.cons_append, List.nil_append] at N12
              dsimp only
              k_steps
              obtain ⟨kd12, hC12⟩ := hC4.pop hd11
              rw [hx] at hadv
              refine hQn2 _ ⟨g9, _, _, h12, _, rfl, S8.trans S9, F12, N12, lv5.length, by rw [List.length_append]; exact Nat.lt_succ_self _, rfl, lv5, seen4, oD11, oS4, kd12, n14 + 1, n24 + 1, rfl, rfl, hC12, hadv⟩
  · intro g' m' led h tk' hP1 Sl B' F' N'; refine hideG fun G0 k0 => ?_; obtain ⟨ov, seen, oD', oS, kd, n1, n2, rfl, rfl, hC, hcyc⟩ := hP1; refine k0 ?_; clear k0 G0
    dsimp only
    k_steps
    show BodyQ g L envs s _ (.ret .none) _
    exact ⟨g', _, _, h, _, rfl, Sl, F', news_sub N' (fun q hq => .tail _ (.tail _ (.tail _ (.tail _ hq)))), rfl, rfl⟩
end
end Mine
end

section
open PySem PySem.Spec PySem.Calls PySem.W PyProof.Rows
set_option Elab.async false
set_option maxRecDepth 100000
set_option linter.unusedVariables false
namespace Mine
section
variable {w : World} {A₀ : Around} {dp un : Nat} {gd : Option (List Code)} {base h₀ : Heap} {outer : List Env} {env : Env} {L : Addr} {m : Str → Option Value} {s : Shared} {news rest : List (Addr × Obj)} {Q E : Value → Shared → Prop}
  {f : Addr} {vs : List Value} {d : Nat} {pre : List (Addr × Obj)} {rs : Value → List (Addr × Obj) → Prop}
theorem Con.useV {v0 : Value} {P : List (Addr × Obj) → Prop} (C : Con w base f vs d pre (fun v l => v = v0 ∧ P l) rs) (B : Below A₀ base outer h₀) (F : Fr h₀ L s.heap m) (N : News h₀ L s.heap news)
    (hf : env.frame = some L) (hke : env.scope.kind = .function) (hd : dp + d < recursionLimit) (hu : un + 100 * d ≤ 5000)
    (hsub : ∀ q ∈ pre, q ∈ news) (hrest : ∀ q ∈ rest, q ∈ news ∧ q.1 ∉ pre.map (·.1))
    (hQ : ∀ led h₀' h' tk', P led → Slid (fra outer) h₀ h₀' → Below A₀ base outer h₀' → Fr h₀' L h' m → News h₀' L h' (led ++ rest) → (∀ p ∈ led, ∀ q ∈ rest, p.1 ≠ q.1) → Q v0 { s with heap := h', toks := tk' })
    (hE : ∀ e led h₀' h' tk', rs e led → Slid (fra outer) h₀ h₀' → Below A₀ base outer h₀' → Fr h₀' L h' m → News h₀' L h' (led ++ rest) → (∀ p ∈ led, ∀ q ∈ rest, p.1 ≠ q.1) → E e { s with heap := h', toks := tk' }) :
    wpAny (model PySem.Challenge.rw_ny0334_01.prog w) (Ar dp (env :: outer) gd un) (call (.ref f) vs) Q E s :=
  Con.use C B F N hf hke hd hu hsub hrest (fun v led h₀' h' tk' hp => hp.1 ▸ hQ led h₀' h' tk' hp.2) hE
theorem Con.useE {v0 : Value} {l0 : List (Addr × Obj)} (C : Con w base f vs d pre (fun v l => v = v0 ∧ l = l0) rs) (B : Below A₀ base outer h₀) (F : Fr h₀ L s.heap m) (N : News h₀ L s.heap news)
    (hf : env.frame = some L) (hke : env.scope.kind = .function) (hd : dp + d < recursionLimit) (hu : un + 100 * d ≤ 5000)
    (hsub : ∀ q ∈ pre, q ∈ news) (hrest : ∀ q ∈ rest, q ∈ news ∧ q.1 ∉ pre.map (·.1))
    (hQ : ∀ h₀' h' tk', Slid (fra outer) h₀ h₀' → Below A₀ base outer h₀' → Fr h₀' L h' m → News h₀' L h' (l0 ++ rest) → (∀ p ∈ l0, ∀ q ∈ rest, p.1 ≠ q.1) → Q v0 { s with heap := h', toks := tk' })
    (hE : ∀ e led h₀' h' tk', rs e led → Slid (fra outer) h₀ h₀' → Below A₀ base outer h₀' → Fr h₀' L h' m → News h₀' L h' (led ++ rest) → (∀ p ∈ led, ∀ q ∈ rest, p.1 ≠ q.1) → E e { s with heap := h', toks := tk' }) :
    wpAny (model PySem.Challenge.rw_ny0334_01.prog w) (Ar dp (env :: outer) gd un) (call (.ref f) vs) Q E s :=
  Con.use C B F N hf hke hd hu hsub hrest (fun v led h₀' h' tk' hp => by obtain ⟨rfl, rfl⟩ := hp; exact hQ h₀' h' tk') hE
end
end Mine
end

section
open PySem PySem.Spec PySem.Calls PySem.W PyProof.Rows PyProof.Rows.LCg PySem.SeqAt
set_option Elab.async false
set_option maxRecDepth 100000
set_option maxHeartbeats 1000000
set_option linter.unusedVariables false
namespace Mine
theorem Rp.at : ∀ {l : List Nd} {ns : List Pn}, Rp l ns → ∀ {i : Nat} {nd : Nd}, l[i]? = some nd → ∃ q, ns[i]? = some q ∧ nd.key = q.1 ∧ nd.np = q.2.1
  | _, _, .nil, i, nd, h => by simp at h
  | _, _, .cons (q := q) h1 h2 h3 r, 0, nd, h => by
    simp at h; subst h; exact ⟨q, rfl, h1, h2⟩
  | _, _, .cons h1 h2 h3 r, i + 1, nd, h => by
    have := r.at (i := i) (nd := nd) (by simpa using h)
    simpa using this
theorem prep_sel {ns : List Pn} : ((List.range ns.length).filter fun i => decide ((ns.getD i default).2.1 = 0)).map (fun i => (ns.getD i default).1) = (prepPs ns).ready := by
  have := congrArg (List.map (·.1)) (filter_at (fun q : Pn => decide (q.2.1 = 0)) ns)
  rw [List.map_map] at this
  exact this
theorem ap_more {S dS N2 R : Addr} {l : List Nd} (h : Ap [S, dS, N2] l) (h1 : R ∉ [S, dS, N2] ++ (nled l).map (·.1)) : Ap [S, dS, N2, R] l := by
  unfold Ap at h ⊢
  have e : ([S, dS, N2, R] ++ (nled l).map (·.1)).Perm (R :: ([S, dS, N2] ++ (nled l).map (·.1))) := by
    have := List.perm_append_comm_assoc [S, dS, N2] [R] ((nled l).map (·.1))
    simpa using this
  exact e.nodup_iff.mpr (List.nodup_cons.mpr ⟨h1, h⟩)
section
variable {w : World} {base : Heap} {p : Program} {loose : List Str} {mean : ExcName → Option Value} {mg mb : Str → Option Value}
theorem prep_con (X : (k0.heap_1 w.params).In base) (T : Top p loose mean mg mb base) (S : Addr) (ns : List Pn) (led : List (Addr × Obj)) (hS : SorterAt0 w S ns led) (hsu : ∀ k ∈ keysN ns, ∀ j ∈ suOf ns k, j ∈ keysN ns) (hl4 : ns.length ≤ 4) (fuel : Nat) (hok : (cyc ns fuel (keysN ns) []).isSome = true) :
    Con w base 92 [.ref S] 5 led (fun v l => v = .none ∧ SorterAt w S (prepPs ns) l) (fun _ _ => False) := by
  k_with_none
  k_with "eval ListComp" => refine here ?_
  k_with "call ref" => refine here ?_
  k_with "k_all" => (refine' allLt_ne ?h ?x; (case h => tbn_find); (case x => omega))
  k_with "k_all" => assumption
  k_with "k_ne" => omega
  k_with "k_ne" => first | assumption | (refine Ne.symm ?_; assumption)
  refine hideG fun G0 k0 => ?_; obtain ⟨dS, N2, d, oN, l, rfl, h0⟩ := hS; refine k0 ?_; clear k0 G0
  refine' Con.of (binds := [(Str.ofString "self", .ref S)]) X T ?ho ?hcd ?hb ?hl ?h ?c2 ?c3 ?c4 ?c5
  k_dflt ((case ho => k_is); (case hcd => k_is); (case hb => exact fun _ => BindsTo.of_eq rfl); (case hl => exact locs rfl); (case c2 => exact rfl); (case c3 => exact rfl); (case c4 => exact rfl); (case c5 => decide))
  intro dp envs gd un s g L h₁ tk hdp hun B Xg Tg F N hlt
  simp only [List.cons_append, List.nil_append] at N
  have hdict := h0.dict
  have hlow := h0.low
  try k_fold
  k_steps
  refine ListComp_J (by with_unfolding_all rfl) (by rfl) (by decide) ?_ (fun _ => rfl)
  k_steps
  rename_i D1 h2 F2 N2' l1
  have hln : (kvOf l).length = ns.length := by
    have := congrArg List.length h0.rp.keys
    simpa [kvOf, keysN] using this
  have hat : ∀ i v, (∃ k, (kvOf l)[i]? = some (k, v)) → ∃ nd q, v = .ref nd.ia ∧ nd ∈ l ∧ ns.getD i default = q ∧ nd.key = q.1 ∧ nd.np = q.2.1 := by
    rintro i v ⟨k, hk⟩
    rw [kvOf, List.getElem?_map, Option.map_eq_some_iff] at hk
    refine hideG fun G0 k0 => ?_; obtain ⟨nd, e1, e2⟩ := hk; refine k0 ?_; clear k0 G0
    refine hideG fun G0 k0 => ?_; obtain ⟨q, e3, e4, e5⟩ := h0.rp.at e1; refine k0 ?_; clear k0 G0
    cases e2
    exact ⟨nd, q, rfl, List.mem_of_getElem? e1, by rw [List.getD_eq_getElem?_getD, e3]; rfl, e4, e5⟩
  refine fm_pure (L := L) (fun i => decide ((ns.getD i default).2.1 = 0)) (fun i y => ∃ t, y = .int (ns.getD i default).1 t) (source_values (by rfl) F2 N2' (.head _) (.tail _ (.tail _ (.tail _ (.head _)))) hdict) (fun q hq => by rw [List.mem_singleton.mp hq]; exact .tail _ (.tail _ (.tail _ (.head _)))) (by rw [hln]; exact Nat.le_trans hl4 (by decide)) B ?_ ?_ ?_ (by decide) (by rfl) (by rfl)
  · rintro I C D i v ys g' oI oC m₂ h tk' hi hP Sl B' F' hC hx2 N' ne off
    refine hideG fun G0 k0 => ?_; obtain ⟨nd, q, rfl, hnd, hq, e1, e2⟩ := hat i v hP; refine k0 ?_; clear k0 G0
    clear F N F2 N2' Xg Tg
    have Xg := X.keeps B'.stays
    have Tg := T.keeps B'.stays
    have N3 : News g' L h ((nd.ia, nd.obj) :: (nd.da, emptyDict) :: [(I, oI), (C, oC), (D, lst ys)]) := fun q hq => by
      rcases List.mem_cons.mp hq with rfl | hq
      · exact N' _ (.tail _ (.tail _ (.tail _ (.tail _ (.tail _ (.tail _ (.tail _ (List.mem_flatMap.mpr ⟨nd, hnd, .head _⟩))))))))
      rcases List.mem_cons.mp hq with rfl | hq
      · exact N' _ (.tail _ (.tail _ (.tail _ (.tail _ (.tail _ (.tail _ (.tail _ (List.mem_flatMap.mpr ⟨nd, hnd, .tail _ (.head _)⟩))))))))
      · simp only [List.mem_cons, List.not_mem_nil, or_false] at hq
        rcases hq with rfl | rfl | rfl
        · exact N' _ (.head _)
        · exact N' _ (.tail _ (.head _))
        · exact N' _ (.tail _ (.tail _ (.head _)))
    refine hideQ fun Q2 E2 hQ2 hE2 => ?_
    dsimp only
    k_steps
    exact hQ2 _ _ (PartEnd.intro (by rw [hq, ← e2]; rfl) (Slid.refl ..) F' N' fun _ h => h)
  · rintro I C D i v ys g' oI oC m₂ h tk' hi hp0 hP Sl B' F' hC hx2 N' ne off
    refine hideG fun G0 k0 => ?_; obtain ⟨nd, q, rfl, hnd, hq, e1, e2⟩ := hat i v hP; refine k0 ?_; clear k0 G0
    clear F N F2 N2' Xg Tg
    have Xg := X.keeps B'.stays
    have Tg := T.keeps B'.stays
    have N3 : News g' L h ((nd.ia, nd.obj) :: (nd.da, emptyDict) :: [(I, oI), (C, oC), (D, lst ys)]) := fun q hq => by
      rcases List.mem_cons.mp hq with rfl | hq
      · exact N' _ (.tail _ (.tail _ (.tail _ (.tail _ (.tail _ (.tail _ (.tail _ (List.mem_flatMap.mpr ⟨nd, hnd, .head _⟩))))))))
      rcases List.mem_cons.mp hq with rfl | hq
      · exact N' _ (.tail _ (.tail _ (.tail _ (.tail _ (.tail _ (.tail _ (.tail _ (List.mem_flatMap.mpr ⟨nd, hnd, .tail _ (.head _)⟩))))))))
      · simp only [List.mem_cons, List.not_mem_nil, or_false] at hq
        rcases hq with rfl | rfl | rfl
        · exact N' _ (.head _)
        · exact N' _ (.tail _ (.head _))
        · exact N' _ (.tail _ (.tail _ (.head _)))
    refine hideQ fun Q2 E2 hQ2 hE2 => ?_
    dsimp only
    k_steps
    exact hQ2 _ _ (PartEnd.intro ⟨_, by rw [hq, ← e1]⟩ (Slid.refl ..) F' N' fun _ h => h)
  · intro ys R g' h tk' hs Sl B' F' N' off
    clear F N F2 N2' Xg Tg
    have Xg := X.keeps B'.stays
    have Tg := T.keeps B'.stays
    have hy := hs.ints
    rw [hln, prep_sel] at hy
    have hap := h0.ap
    unfold Ap at hap
    simp only [List.cons_append, List.nil_append, List.nodup_cons, List.mem_cons, not_or] at hap
    refine hideG fun G0 k0 => ?_; obtain ⟨⟨a1, a2, a3⟩, ⟨b1, b2⟩, c1, _⟩ := hap; refine k0 ?_; clear k0 G0
    have m2 : ∀ q ∈ nled l, q.1 ≠ dS := fun q hq e => b2 (e ▸ List.mem_map_of_mem hq)
    have r1 : R ≠ S := fun e => off (S, instObj 137 dS) (.tail _ (.head _)) e.symm
    have r2 : R ≠ dS := fun e => off (dS, sdict d N2 Value.none 0 0) (.tail _ (.tail _ (.head _))) e.symm
    have r3 : R ≠ N2 := fun e => off (N2, oN) (.tail _ (.tail _ (.tail _ (.head _)))) e.symm
    have r4 : R ∉ (nled l).map (·.1) := fun hm => by
      refine hideG fun G0 k0 => ?_; obtain ⟨q, hq, e⟩ := List.mem_map.mp hm; refine k0 ?_; clear k0 G0
      exact off q (.tail _ (.tail _ (.tail _ (.tail _ hq)))) e
    have N4 : News g' L h ((R, lst ys) :: (S, instObj 137 dS) :: (dS, sdict d N2 Value.none 0 0) :: (N2, oN) :: nled l) := news_sub N' fun q hq => by
      revert q; refine all_cons (.head _) ?_; intro q hq; exact .tail _ (.tail _ hq)
    clear N' off hs
    dsimp only
    k_steps
    rename_i h5 F5 N5
    change News g' L h5 ((R, lst ys) :: (S, instObj 137 dS) :: (dS, sdict d N2 (.ref R) 0 0) :: (N2, oN) :: nled l) at N5
    refine here ?_
    simp only [List.append_nil]
    refine Con.useE (env := envOf (Str.ofString "TopologicalSorter.prepare") _ L 92 (.ref 91)) (rest := [(R, lst ys)]) (cycle_con X T S dS N2 d (.ref R) 0 0 oN l ns hdict hlow h0.rp h0.ap h0.nd hsu hl4 fuel hok) B' F5 N5 rfl rfl (dp_le (a := 4) hdp (by decide)) (un_le (a := 303) hun (by decide)) (fun q hq => .tail _ hq) (fun q hq => ?_) ?_ (fun _ _ _ _ _ h => h.elim)
    · rw [List.mem_singleton.mp hq]
      refine ⟨.head _, fun hm => ?_⟩
      have hm' : R ∈ [S, dS, N2] ++ (nled l).map (·.1) := hm
      simp only [List.mem_cons, List.mem_append, List.not_mem_nil, or_false] at hm'
      rcases hm' with (e | e | e) | e
      · exact r1 e
      · exact r2 e
      · exact r3 e
      · exact r4 e
    · intro g6 h6 tk6 S6 B6 F6 N6 ap6
      clear F5 N5 Xg Tg
      have Xg := X.keeps B6.stays
      have Tg := T.keeps B6.stays
      k_steps
      rename_i h7 F7 N7
      show BodyQ g L envs s _ .next _
      refine ⟨g6, _, cled S dS N2 R d oN ys ys.length 0 0 ++ nled l, h7, _, rfl, Sl.trans S6, F7, news_sub N7 fun q hq => ?_, rfl, dS, N2, R, d, oN, ys, ys.length, l, rfl, ⟨hdict, hlow, hy, h0.rp, h0.nd, ap_more h0.ap ?_, hl4, ?_⟩⟩
      · simp only [List.cons_append, List.nil_append, List.mem_cons, List.mem_append, List.not_mem_nil, or_false] at hq ⊢
        rcases hq with e | e | e | e | e
        · exact .inl e
        · exact .inr (.inl e)
        · exact .inr (.inr (.inl e))
        · exact .inr (.inr (.inr (.inr e)))
        · exact .inr (.inr (.inr (.inl e)))
      · intro hm
        simp only [List.mem_cons, List.mem_append, List.not_mem_nil, or_false] at hm
        rcases hm with (e | e | e) | e
        · exact r1 e
        · exact r2 e
        · exact r3 e
        · exact r4 e
      · show ((ns.filter fun q => q.2.1 = 0).map (·.1)).length ≤ 4
        rw [List.length_map]
        exact Nat.le_trans (List.length_filter_le _ _) hl4
end
end Mine
end

section
open PySem PySem.Spec PySem.Calls PySem.W PyProof.Rows PySem.Builtin PySem.Builtin.OSError
set_option Elab.async false
set_option maxRecDepth 100000
set_option maxHeartbeats 2000000
set_option linter.unusedVariables false
namespace Mine
noncomputable def BornO (C : Addr) (oe : Obj) : Prop := oe.cls = .ref C ∧ oe.dict = none ∧ ∃ vs a0, oe.data = .fields vs ∧ vs[0]? = some a0 ∧ vs[1]? = some .none ∧ vs.size = 11
theorem os_entry : entryFor table "OSError.__new__" = some Builtin.«OSError.__new__» := entryFor_of_tree (by kernel_rfl)
theorem os_entry_init : entryFor table "OSError.__init__" = some Builtin.«OSError.__init__» := entryFor_of_tree (by kernel_rfl)
theorem os_canon : Manifest.canonical "OSError.__new__" = "OSError.__new__" := by decide +kernel
theorem os_tab (w : World) : ((List.range 10).all fun i => peek (k0.heap_1 w.params) ⟨PySem.Challenge.rw_ny0334_01.prog, w.params⟩ (Bind.madeBy (.ref (clsA i))) == some (some "OSError.__new__") &&
   peek (k0.heap_1 w.params) ⟨PySem.Challenge.rw_ny0334_01.prog, w.params⟩ (isSubtype (.ref (clsA i)) (.type "OSError")) == some true &&
   peek (k0.heap_1 w.params) ⟨PySem.Challenge.rw_ny0334_01.prog, w.params⟩ (isSubtype (.ref (clsA i)) (.ref (clsA i))) == some true &&
   peek (k0.heap_1 w.params) ⟨PySem.Challenge.rw_ny0334_01.prog, w.params⟩ (isType (.ref (clsA i))) == some true &&
   peek (k0.heap_1 w.params) ⟨PySem.Challenge.rw_ny0334_01.prog, w.params⟩ (isInstance (.ref (clsA i)) (.type "type")) == some true &&
   peek (k0.heap_1 w.params) ⟨PySem.Challenge.rw_ny0334_01.prog, w.params⟩ (specialOf (.ref (clsA i)) "__call__") == some (some (.builtin "type.__call__")) &&
   peek (k0.heap_1 w.params) ⟨PySem.Challenge.rw_ny0334_01.prog, w.params⟩ (mroOf (.ref (clsA i)) >>= fun l => pure l.isEmpty) == some false &&
   peek (k0.heap_1 w.params) ⟨PySem.Challenge.rw_ny0334_01.prog, w.params⟩ (osReadsInInit (.ref (clsA i))) == some (!([0, 5, 6].contains i)) &&
   peek (k0.heap_1 w.params) ⟨PySem.Challenge.rw_ny0334_01.prog, w.params⟩ (classHasDel (clsA i)) == some false) = true := by kernel_rfl
theorem os_check1 (w : World) {i : Nat} (hi : i < 10) (a : Value) : peek (k0.heap_1 w.params) ⟨PySem.Challenge.rw_ny0334_01.prog, w.params⟩ (checkBuiltinCall "OSError.__new__" ⟨[.ref (clsA i), a], []⟩) = some () := by
  rcases or10 i hi with rfl | rfl | rfl | rfl | rfl | rfl | rfl | rfl | rfl | rfl <;> kernel_rfl
theorem os_check2 (w : World) {i : Nat} (hi : i < 10) (a b : Value) : peek (k0.heap_1 w.params) ⟨PySem.Challenge.rw_ny0334_01.prog, w.params⟩ (checkBuiltinCall "OSError.__new__" ⟨[.ref (clsA i), a, b], []⟩) = some () := by
  rcases or10 i hi with rfl | rfl | rfl | rfl | rfl | rfl | rfl | rfl | rfl | rfl <;> kernel_rfl
theorem os_check3 (w : World) {i : Nat} (hi : i < 10) (a b c : Value) : peek (k0.heap_1 w.params) ⟨PySem.Challenge.rw_ny0334_01.prog, w.params⟩ (checkBuiltinCall "OSError.__new__" ⟨[.ref (clsA i), a, b, c], []⟩) = some () := by
  rcases or10 i hi with rfl | rfl | rfl | rfl | rfl | rfl | rfl | rfl | rfl | rfl <;> kernel_rfl
structure MakesO (M : Model) (h : Heap) (C : Addr) (b : Bool) : Prop where
  cls : ∀ (s : Shared) (A : Around) (Q : Bool → Shared → Prop) (E : Value → Shared → Prop), (∀ b o, h.get? b = some o → s.heap.get? b = some o) → Q false s → wpAny M A (classHasDel C) Q E s
  made : Looks M h (Bind.madeBy (.ref C)) (some "OSError.__new__")
  os : Looks M h (isSubtype (.ref C) (.type "OSError")) true
  self : Looks M h (isSubtype (.ref C) (.ref C)) true
  isT : Looks M h (isType (.ref C)) true
  typ : Looks M h (isInstance (.ref C) (.type "type")) true
  call : Looks M h (specialOf (.ref C) "__call__") (some (.builtin "type.__call__"))
  mro : Looks M h (mroOf (.ref C) >>= fun l => pure l.isEmpty) false
  reads : Looks M h (osReadsInInit (.ref C)) b
theorem makesO {w : World} {h : Heap} {i : Nat} (X : (k0.heap_1 w.params).In h) (hi : i < 10) : MakesO (model PySem.Challenge.rw_ny0334_01.prog w) h (clsA i) (!([0, 5, 6].contains i)) := by
  have := List.all_eq_true.mp (os_tab w) i (List.mem_range.mpr hi)
  simp only [Bool.and_eq_true, beq_iff_eq] at this
  obtain ⟨⟨⟨⟨⟨⟨⟨⟨h1, h2⟩, h3⟩, h4⟩, h5⟩, h6⟩, h7⟩, h8⟩, h9⟩ := this
  exact ⟨fun s A Q E k q => Looks.of_peek (M := model PySem.Challenge.rw_ny0334_01.prog w) X h9 A Q E s k q, Looks.of_peek X h1, Looks.of_peek X h2, Looks.of_peek X h3, Looks.of_peek X h4, Looks.of_peek X h5, Looks.of_peek X h6, Looks.of_peek X h7, Looks.of_peek X h8⟩
end Mine
end

section
open PySem PySem.Spec PySem.Calls PySem.W PyProof.Rows PySem.Builtin PySem.Builtin.OSError
set_option Elab.async false
set_option maxRecDepth 100000
set_option maxHeartbeats 2000000
set_option linter.unusedVariables false
namespace Mine
section
variable {prog : Program} {w : World} {A : Around} {C : Addr} {R : Result → Shared → Prop} {s : Shared} {E : Value → Shared → Prop} {b : Bool}
noncomputable abbrev blankObj (C t : Addr) : Obj := { cls := .ref C, data := .fields #[.ref t, .none, .none, .none, .bool false, .none, rawInt 0, rawInt 0, rawInt 0, rawInt 0, rawInt (-1)] }
theorem osPut_any {e : Addr} {oe : Obj} {vs : Array Value} {i : Nat} {v : Value} {Q : Unit → Shared → Prop} (he : s.heap.get? e = some oe) (hd : oe.data = .fields vs) (hi : i < vs.size)
    (h : ∀ h' oe', h'.get? e = some oe' → oe'.cls = oe.cls → oe'.dict = oe.dict → oe'.data = .fields (vs.setIfInBounds i v) → (∀ b o, b ≠ e → s.heap.get? b = some o → h'.get? b = some o) → Q () { s with heap := h' }) : wpAny (model prog w) A (osPut (.ref e) i v) Q E s := by
  unfold osPut
  refine wpAny_bind (wpAny_field he hd (Array.getElem?_eq_getElem hi) ?_)
  have hd' := Obj.data_mapFields hd (·.setIfInBounds i v)
  refine wpAny_bind (wpAny_setField he hd hi (wpAny_letGo (h _ _ (Heap.get?_update_self (Obj.mapFields (·.setIfInBounds i v)) he (Obj.isFreed_of_fields hd')) ?_ ?_ hd' fun b o hb e => ?_)))
  · obtain ⟨c, d, dt, sl⟩ := oe; cases hd; rfl
  · obtain ⟨c, d, dt, sl⟩ := oe; cases hd; rfl
  · rw [Heap.get?_update_other _ _ (fun q => hb q.symm)]; exact e
theorem os_new {rest : List Value} (Y : MakesO (model prog w) s.heap C b) (ck : Looks (model prog w) s.heap (checkBuiltinCall "OSError.__new__" ⟨.ref C :: rest, []⟩) ()) (hr : b = false → ∃ x, rest = [x])
    (hq : ∀ h' oe, (∀ a o, s.heap.get? a = some o → h'.get? a = some o) → h'.get? (s.heap.objs.size + 1) = some oe → BornO C oe → R (.ok (.ret (.ref (s.heap.objs.size + 1)))) { s with heap := h' }) :
    codeAny (model prog w) A (.call (.builtin "OSError.__new__") ⟨.ref C :: rest, []⟩) R s := by
  refine codeAny_call_builtin_code (Code.quiet_builtin _ (by decide +kernel)) (ck.here ?_)
  refine codeAny_builtin os_entry ?_
  unfold Builtin.«OSError.__new__»
  have blank : ∀ (A' : Around) (E' : Value → Shared → Prop) (Q' : Value → Shared → Prop), Q' (.ref (s.heap.objs.size + 1)) { s with heap := (s.heap.push { cls := .type "tuple", data := .seq #[] }).push (blankObj C s.heap.objs.size) } →
      wpAny (model prog w) A' (do newObj (.ref C) (.fields (#[← newTuple [], .none, .none, .none, .bool false, .none] ++ osNothingGiven))) Q' E' s := fun A' E' Q' q => by
    refine wpAny_bind (wpAny_newTuple ?_)
    show wpAny _ _ (newObjAsIs (.ref C) _ none) _ _ _
    unfold newObjAsIs
    refine wpAny_bind (wpAny_alloc (wpAny_bind (Y.cls _ _ _ _ (fun _ _ e => Heap.get?_push_of_some _ (Heap.get?_push_of_some _ e)) ?_)))
    have e : (s.heap.push { cls := .type "tuple", data := .seq #[] }).objs.size = s.heap.objs.size + 1 := Heap.size_push ..
    refine wpAny_pure ?_
    show Q' (.ref (s.heap.push { cls := .type "tuple", data := .seq #[] }).objs.size) _
    rw [e]
    exact q
  dsimp only
  refine wpAny_bind (Y.isT.here ?_)
  rw [if_neg (by decide)]
  refine wpAny_bind (Y.os.here ?_)
  rw [if_neg (by decide)]
  refine wpAny_bind (Y.reads.here ?_)
  have e0 : (s.heap.push { cls := .type "tuple", data := .seq #[] }).objs.size = s.heap.objs.size + 1 := Heap.size_push ..
  have up : ∀ a o, s.heap.get? a = some o → ((s.heap.push { cls := .type "tuple", data := .seq #[] }).push (blankObj C s.heap.objs.size)).get? a = some o := fun a o e => Heap.get?_push_of_some _ (Heap.get?_push_of_some _ e)
  have g1 : ((s.heap.push { cls := .type "tuple", data := .seq #[] }).push (blankObj C s.heap.objs.size)).get? (s.heap.objs.size + 1) = some (blankObj C s.heap.objs.size) := by rw [← e0]; exact Heap.get?_push_size _ rfl
  cases b with
  | true =>
    rw [if_pos rfl]
    refine wpAny_bind (wpAny_rule (wpAny_bind (blank _ _ _ ?_)))
    refine wpAny_pure ?_
    exact hq _ _ up g1 ⟨rfl, rfl, _, _, rfl, rfl, rfl, rfl⟩
  | false =>
    obtain ⟨x, rfl⟩ := hr rfl
    rw [if_neg (by decide), if_neg (by decide)]
    rw [if_neg (by show ¬ ((false && _ && _) = true); simp)]
    refine wpAny_bind (blank _ _ _ ?_)
    refine wpAny_bind (show wpAny _ _ (do osPut (.ref (s.heap.objs.size + 1)) 6 osUnset; osPut (.ref (s.heap.objs.size + 1)) 7 osUnset; osPut (.ref (s.heap.objs.size + 1)) 0 (← newTuple [x])) _ _ _ from ?_)
    refine wpAny_bind (osPut_any g1 rfl (by simp) fun h1 o1 a1 a2 a3 a4 a5 => ?_)
    refine wpAny_bind (osPut_any a1 a4 (by simp) fun h2 o2 b1 b2 b3 b4 b5 => ?_)
    refine wpAny_bind (wpAny_newTuple ?_)
    refine osPut_any (Heap.get?_push_of_some _ b1) b4 (by simp) fun h3 o3 c1 c2 c3 c4 c5 => ?_
    refine wpAny_pure ?_
    refine hq h3 o3 (fun a o e => ?_) c1 ⟨by rw [c2, b2, a2], by rw [c3, b3, a3], _, _, c4, rfl, rfl, by simp⟩
    have ne : a ≠ s.heap.objs.size + 1 := Nat.ne_of_lt (Nat.lt_succ_of_lt (Heap.lt_size e))
    exact c5 a o ne (Heap.get?_push_of_some _ (b5 a o ne (a5 a o ne (up a o e))))

theorem os_make {rest : List Value} {init : Value} (Y : MakesO (model prog w) s.heap C b) (hC : ∃ oc od cd sl, s.heap.get? C = some ⟨oc, od, .cls cd, sl⟩ ∧ cd.mro.isEmpty = false) (ck : Looks (model prog w) s.heap (checkBuiltinCall "OSError.__new__" ⟨.ref C :: rest, []⟩) ()) (hr : b = false → ∃ x, rest = [x])
    (hi : Looks (model prog w) s.heap (typeLookup (.ref C) "__init__") (some init)) (hb : ∀ self, Looks (model prog w) s.heap (bindSpecial init self) (init, [self]))
    (hq : ∀ h' oe, (∀ a o, s.heap.get? a = some o → h'.get? a = some o) → h'.get? (s.heap.objs.size + 1) = some oe → BornO C oe →
      codeAny (model prog w) (A.under (.builtin "type.__call__" ⟨.ref C :: rest, []⟩)) (.call init ⟨.ref (s.heap.objs.size + 1) :: rest, []⟩) (InitBack (s.heap.objs.size + 1) R) { s with heap := h' }) :
    codeAny (model prog w) A (.call (.ref C) ⟨rest, []⟩) R s := by
  obtain ⟨oc, od, cd, sl, hC, e4⟩ := hC
  refine codeAny_of_tree ?_
  show wpAny _ _ (callAny (.ref C) _) _ _ _
  refine nd_load hC ?_
  show wpAny _ _ (callAny.viaDunder (.ref C) _) _ _ _
  unfold callAny.viaDunder
  refine wpAny_bind (Y.call.here ?_)
  dsimp only
  rw [tc_bind]
  refine wpAny_bind (wpAny_pure (wpAny_bind (wpAny_pure ?_)))
  refine wpAny_pure (a := Fin.again (.call (.builtin "type.__call__") ⟨.ref C :: rest, []⟩)) (And.intro rfl ?_)
  refine codeAny_call_builtin_at (Code.quiet_builtin _ (by decide +kernel)) entry_typeCall (check_slot tc_kind tc_split Y.typ (tc_args _ _ _) ?_)
  unfold Builtin.«type.__call__»
  have hm : Looks (model prog w) s.heap (mroOf (.ref C)) cd.mro := ((Looks.ld (part := none) hC).andThen .now).andThen .now
  have made := Y.made
  repeat (first | simp only [e4, Bool.false_eq_true, if_false] | with_reducible refine wpAny_call ?_ | lk)
  refine os_new Y ck hr fun h' oe k g1 hB => ?_
  have t1 : Looks (model prog w) h' (typeOf (.ref (s.heap.objs.size + 1))) (.ref C) := by
    rw [← hB.1]
    exact (Looks.ld g1).andThen .now
  have s1 := Y.self.keeps k
  have i1 := hi.keeps k
  have b1 := (hb (.ref (s.heap.objs.size + 1))).keeps k
  unfold isInstance callSpecial? specialOf
  repeat (first | with_reducible refine wpAny_call ?_ | lk)
  refine codeAny_mono (hq h' oe k g1 hB) fun r s' z => ?_
  rcases r with e | (v | _ | _ | _) <;> first | exact z | exact z.elim | skip
  obtain ⟨rfl, z⟩ := z
  exact wpAny_pure (wpAny_pure z)
end
end Mine
end

section
open PySem PySem.Spec PySem.Calls PySem.W PyProof.Rows PySem.Builtin PySem.Builtin.OSError
set_option Elab.async false
set_option maxRecDepth 100000
set_option maxHeartbeats 2000000
set_option linter.unusedVariables false
namespace Mine
theorem under_mk {dp un : Nat} {es : List Env} {gd : Option (List Code)} {C : Addr} {rest : List Value} : (Ar dp es gd un).under (.builtin "type.__call__" ⟨.ref C :: rest, []⟩) = Ar (dp + 1) es gd (un + (Code.builtin "type.__call__" ⟨.ref C :: rest, []⟩).cUnits) := by
  have e1 : (Code.builtin "type.__call__" ⟨.ref C :: rest, []⟩).envs = [] := by kernel_rfl
  have e2 : (Code.builtin "type.__call__" ⟨.ref C :: rest, []⟩).guards = [] := by kernel_rfl
  have e3 : (Code.builtin "type.__call__" ⟨.ref C :: rest, []⟩).weight = 1 := by kernel_rfl
  unfold Around.under
  rw [e1, e2, e3]; rfl
theorem units_mk {C : Addr} {rest : List Value} : (Code.builtin "type.__call__" ⟨.ref C :: rest, []⟩).cUnits = 1 := by kernel_rfl
theorem oi_kindO : builtinKind "OSError.__init__" = some .slot := by decide +kernel
theorem oi_splitO : splitId "OSError.__init__" = some ("OSError", "__init__") := by decide +kernel
theorem oi_argsO (a b : Value) : argsOk "OSError.__init__" ⟨[a, b], []⟩ := by unfold argsOk; kernel_rfl
theorem oi_bindO (self : Value) : bindSpecial (.builtin "OSError.__init__") self = pure (.builtin "OSError.__init__", [self]) := by
  have h1 : withoutEnding? "OSError.__init__" "#opaque" = none := by decide +kernel
  have h2 : withoutEnding? "OSError.__init__" "#data" = none := by decide +kernel
  simp only [bindSpecial, typeOf, builtinType, h1, h2, oi_kindO]; rfl
theorem oi_plainO : plainId "OSError.__init__" = true := by decide +kernel
section
variable {prog : Program} {w : World} {A : Around} {C : Addr} {R : Result → Shared → Prop} {s : Shared} {E : Value → Shared → Prop}
theorem os_init_nothing {e : Addr} {oe : Obj} {x : Value} (Y : MakesO (model prog w) s.heap C false) (he : s.heap.get? e = some oe) (hc : oe.cls = .ref C) (h : R (.ok (.ret (.ref e))) s) :
    codeAny (model prog w) A (.call (.builtin "OSError.__init__") ⟨[.ref e, x], []⟩) (InitBack e R) s := by
  have t1 : Looks (model prog w) s.heap (typeOf (.ref e)) (.ref C) := by
    rw [← hc]
    exact (Looks.ld he).andThen .now
  refine codeAny_call_builtin oi_plainO os_entry_init (@check_slot (model prog w) _ _ s "OSError.__init__" "OSError" "__init__" (.ref e) [x] [] _ oi_kindO oi_splitO (t1.andThen Y.os) (oi_argsO _ _) ?_)
  unfold Builtin.«OSError.__init__»
  dsimp only
  refine wpAny_bind (t1.here (wpAny_bind (Y.reads.here ?_)))
  rw [if_pos (by decide)]
  exact wpAny_bind (wpAny_rule (wpAny_pure (And.intro rfl h)))
end
noncomputable def RestO (C : Addr) (oe : Obj) : Prop := oe.cls = .ref C ∧ ∃ vs a0, oe.data = .fields vs ∧ vs[0]? = some a0 ∧ vs[1]? = some .none
theorem RestO.exl {C e : Addr} {oe : Obj} (h : RestO C oe) : ExL e (.ref C) [(e, oe)] := by
  refine hideG fun G0 k0 => ?_; obtain ⟨h1, vs, a0, h2, h3, h4⟩ := h; refine k0 ?_; clear k0 G0
  exact .inr ⟨oe, vs, a0, h1, h2, h3, h4, rfl⟩
theorem BornO.rest {C : Addr} {oe : Obj} (h : BornO C oe) : RestO C oe := by
  refine hideG fun G0 k0 => ?_; obtain ⟨h1, _, vs, a0, h2, h3, h4, _⟩ := h; refine k0 ?_; clear k0 G0
  exact ⟨h1, vs, a0, h2, h3, h4⟩
noncomputable def clsOk (K : Frag) (C : Addr) : Bool := match K.lookup C with
  | some ⟨_, _, .cls cd, _⟩ => !cd.mro.isEmpty
  | _ => false
theorem clsOk_obj {K : Frag} {h : Heap} {C : Addr} (X : K.In h) (e : clsOk K C = true) : ∃ oc od cd sl, h.get? C = some ⟨oc, od, .cls cd, sl⟩ ∧ cd.mro.isEmpty = false := by
  unfold clsOk at e
  split at e
  · rename_i oc od cd sl ho
    exact ⟨oc, od, cd, sl, X _ _ ho, by simpa using e⟩
  · cases e
noncomputable def initV (i : Nat) : Value := [.builtin "OSError.__init__", .ref 220, .ref 239, .ref 220, .ref 258, .builtin "OSError.__init__", .builtin "OSError.__init__", .ref 220, .ref 220, .ref 220].getD i .none
theorem init_tab (w : World) : ((List.range 10).all fun i => clsOk (k0.heap_1 w.params) (clsA i) && findIn (k0.heap_1 w.params) (.ref (clsA i)) "__init__" == some (some (initV i))) = true := by kernel_rfl
theorem fn_tab (w : World) : typeIn (k0.heap_1 w.params) (.ref 220) = some (.type "function") ∧ typeIn (k0.heap_1 w.params) (.ref 239) = some (.type "function") ∧ typeIn (k0.heap_1 w.params) (.ref 258) = some (.type "function") := ⟨by kernel_rfl, by kernel_rfl, by kernel_rfl⟩
section
variable {w : World} {A A₀ : Around} {base g h₀ : Heap} {L : Addr} {m : Str → Option Value} {s : Shared} {news : List (Addr × Obj)} {Q E : Value → Shared → Prop} {i : Nat}
theorem fresh_in {h : Heap} {a : Addr} (F : Fr h₀ L h m) (ha : h.objs.size ≤ a) : h₀.get? a = none := by
  cases e : h₀.get? a with
  | none => rfl
  | some o => exact absurd (Heap.lt_size (F.keep a o e)) (Nat.not_lt.mpr ha)
theorem born_in {h h' : Heap} {oe : Obj} (F : Fr h₀ L h m) (N : News h₀ L h news) (k : ∀ a o, h.get? a = some o → h'.get? a = some o) (ge : h'.get? (h.objs.size + 1) = some oe) :
    Fr h₀ L h' m ∧ News h₀ L h' ((h.objs.size + 1, oe) :: news) ∧ ∀ p ∈ news, @LT.lt Nat _ p.1 (h.objs.size + 1) := by
  refine ⟨F.keeps k, fun q hq => ?_, fun p hp => Nat.lt_succ_of_lt (Heap.lt_size (N p hp).1)⟩
  revert q; refine all_cons (⟨ge, Ne.symm (Nat.ne_of_lt (Nat.lt_succ_of_lt F.ns.lt)), fresh_in F (Nat.le_succ _)⟩) ?_; intro q hq; exact ⟨k _ _ (N q hq).1, (N q hq).2⟩
theorem mk_plain (hi : i = 0 ∨ i = 5 ∨ i = 6) (X : (k0.heap_1 w.params).In h₀) (F : Fr h₀ L s.heap m) (N : News h₀ L s.heap news) (x : Value)
    (h : ∀ e oe h', Fr h₀ L h' m → News h₀ L h' ((e, oe) :: news) → RestO (clsA i) oe → (∀ p ∈ news, @LT.lt Nat _ p.1 e) → Q (.ref e) { s with heap := h' }) :
    wpAny (MG w) A (call (.ref (clsA i)) [x]) Q E s := by
  have hi10 : i < 10 := by omega
  have Xs := X.keeps F.keep
  have Y := makesO (w := w) Xs hi10
  have hz : (!([0, 5, 6].contains i)) = false := by rcases hi with rfl | rfl | rfl <;> rfl
  rw [hz] at Y
  have ht := List.all_eq_true.mp (init_tab w) i (List.mem_range.mpr hi10)
  simp only [Bool.and_eq_true, beq_iff_eq] at ht
  have hv : initV i = .builtin "OSError.__init__" := by rcases hi with rfl | rfl | rfl <;> rfl
  rw [hv] at ht
  refine wpAny_call (os_make Y (clsOk_obj Xs ht.1) (Looks.of_peek Xs (os_check1 w hi10 x)) (fun _ => ⟨x, rfl⟩) (looks_findIn Xs ht.2) (fun self => Looks.of_pure (oi_bindO self)) fun h' oe k ge hB => ?_)
  refine hideG fun G0 k0 => ?_; obtain ⟨F', N', lt⟩ := born_in F N k ge; refine k0 ?_; clear k0 G0
  have Y' : MakesO (MG w) h' (clsA i) false := by
    have := makesO (w := w) (Xs.keeps k) hi10
    rwa [hz] at this
  exact os_init_nothing (s := { s with heap := h' }) Y' ge hB.1 (h _ _ _ F' N' hB.rest lt)

theorem mk_init {dp un d : Nat} {gd : Option (List Code)} {envs : List Env} {env : Env} {fI : Addr} {rest : List Value} (hi10 : i < 10) (hv : initV i = .ref fI) (hfi : fI = 220 ∨ fI = 239 ∨ fI = 258) (hz : (!([0, 5, 6].contains i)) = true) (X : (k0.heap_1 w.params).In base)
    (ck : ∀ h, (k0.heap_1 w.params).In h → Looks (MG w) h (checkBuiltinCall "OSError.__new__" ⟨.ref (clsA i) :: rest, []⟩) ())
    (hcon : ∀ e oe, BornO (clsA i) oe → Con w base fI (.ref e :: rest) d [(e, oe)] (fun v l => v = .none ∧ ∃ oe', l = [(e, oe')] ∧ RestO (clsA i) oe') (fun _ _ => False))
    (B : Below (Ar dp envs gd un) base envs g) (F : Fr g L s.heap m) (N : News g L s.heap news)
    (hf : env.frame = some L) (hke : env.scope.kind = .function) (hd : dp + 2 + d < recursionLimit) (hu : un + 4 + 100 * d ≤ 5000)
    (h : ∀ e oe g1 h1 tk1, Slid (fra envs) g g1 → Below (Ar dp envs gd un) base envs g1 → Fr g1 L h1 m → News g1 L h1 ((e, oe) :: news) → RestO (clsA i) oe → (∀ p ∈ news, @LT.lt Nat _ p.1 e) → Q (.ref e) { s with heap := h1, toks := tk1 }) :
    wpAny (MG w) ((Ar dp envs gd un).deeper env) (call (.ref (clsA i)) rest) Q E s := by
  have Xs := (X.keeps B.stays).keeps F.keep
  have Y := makesO (w := w) Xs hi10
  rw [hz] at Y
  have ht := List.all_eq_true.mp (init_tab w) i (List.mem_range.mpr hi10)
  simp only [Bool.and_eq_true, beq_iff_eq] at ht
  rw [hv] at ht
  have hfn : typeIn (k0.heap_1 w.params) (.ref fI) = some (.type "function") := by
    refine hideG fun G0 k0 => ?_; obtain ⟨f1, f2, f3⟩ := fn_tab w; refine k0 ?_; clear k0 G0
    rcases hfi with rfl | rfl | rfl <;> assumption
  refine wpAny_call (os_make Y (clsOk_obj Xs ht.1) (ck _ Xs) (fun e => by cases e) (looks_findIn Xs ht.2) (fun self => bind_fn Xs self hfn) fun h' oe k ge hB => ?_)
  refine hideG fun G0 k0 => ?_; obtain ⟨F', N', lt⟩ := born_in F N k ge; refine k0 ?_; clear k0 G0
  have e1 : ((Ar dp envs gd un).deeper env).under (.builtin "type.__call__" ⟨.ref (clsA i) :: rest, []⟩) = Ar (dp + 1 + 1) (env :: envs) gd (un + 3 + 1) := by
    show (Ar (dp + 1) (env :: envs) gd (un + 3)).under _ = _
    rw [under_mk, units_mk]
  rw [e1]
  have B₁ := pushX B F' hf hke
  have me : ((s.heap.objs.size + 1, oe) : Addr × Obj) ∈ (s.heap.objs.size + 1, oe) :: news := .head _
  have sub : ∀ q ∈ [(s.heap.objs.size + 1, oe)], q ∈ (s.heap.objs.size + 1, oe) :: news := fun q hq => by rw [List.mem_singleton.mp hq]; exact me
  have rst : ∀ q ∈ news, q ∈ (s.heap.objs.size + 1, oe) :: news ∧ q.1 ∉ [(s.heap.objs.size + 1, oe)].map (·.1) := fun q hq => ⟨.tail _ hq, fun hm => by
    have e : q.1 = s.heap.objs.size + 1 := by simpa using hm
    exact Nat.ne_of_lt (lt q hq) e⟩
  refine codeAny_mono (hcon _ oe hB (dp + 1 + 1) (env :: envs) gd (un + 3 + 1) { s with heap := h' } (fun v s' => v = .none ∧ Q (.ref (s.heap.objs.size + 1)) s') (fun _ _ => False) (by omega) (by omega) B₁.stays B₁.frames (ents_news B N' sub) (off_frames B N' hf sub) ?_ (fun _ _ _ _ h => h.elim)) fun r s' z => ?_
  · intro v led h1 tk1 hP1 C I hl; refine hideG fun G0 k0 => ?_; obtain ⟨rfl, oe', rfl, hR⟩ := hP1; refine k0 ?_; clear k0 G0
    refine hideG fun G0 k0 => ?_; obtain ⟨g1, S1, B1, F1, N1, _⟩ := after_call (s := { s with heap := h' }) B F' N' hf sub rst C I hl; refine k0 ?_; clear k0 G0
    exact ⟨rfl, h _ oe' g1 h1 tk1 S1 B1 F1 N1 hR lt⟩
  · rcases r with e | (v | _ | _ | _) <;> first | exact z | exact z.elim
end
end Mine
end

section
open PySem PySem.Spec PySem.Calls PySem.W PyProof.Rows PySem.Builtin PySem.Builtin.OSError PySem.Builtin.ObjectAttr
set_option Elab.async false
set_option maxRecDepth 100000
set_option maxHeartbeats 2000000
set_option linter.unusedVariables false
namespace Mine
noncomputable def Ns1O (od : Obj) (m : Str → Option Value) : Prop := ∃ es ep, od.data = .dict es ep ∧ StrKeys es ∧ UniqKeys es ∧ ∀ name, nsFind es name = m name
theorem Ns1O.ns {od : Obj} {m : Str → Option Value} {h : Heap} {a : Addr} (x : Ns1O od m) (e : h.get? a = some od) : h.Ns1 a m := let ⟨es, ep, r⟩ := x; ⟨od, es, ep, e, r⟩
theorem ns1_obj {m : Str → Option Value} {h : Heap} {a : Addr} (x : h.Ns1 a m) : ∃ od, h.get? a = some od ∧ Ns1O od m := let ⟨od, es, ep, e, r⟩ := x; ⟨od, e, es, ep, r⟩
noncomputable def EL (e C : Addr) (ns : List Str) (l : List (Addr × Obj)) : Prop :=
  ∃ oe, RestO C oe ∧ ((oe.dict = none ∧ l = [(e, oe)]) ∨ ∃ dx od mA, oe.dict = some dx ∧ dx ≠ e ∧ Ns1O od mA ∧ Within mA ns ∧ l = [(e, oe), (dx, od)])
theorem set_tab (w : World) : ((List.range 10).all fun i => findIn (k0.heap_1 w.params) (.ref (clsA i)) "__setattr__" == some (some (.builtin "object.__setattr__")) && (clsIn (k0.heap_1 w.params) (clsA i)).any (·.hasDict) &&
   peek (k0.heap_1 w.params) ⟨PySem.Challenge.rw_ny0334_01.prog, w.params⟩ (isSubtype (.ref (clsA i)) (.type "object")) == some true) = true := by kernel_rfl
theorem refuse_tab (w : World) {i : Nat} (hi : i < 10) (self : Value) : peek (k0.heap_1 w.params) ⟨PySem.Challenge.rw_ny0334_01.prog, w.params⟩ (mroOf (.ref (clsA i)) >>= fun l => refuseLoop self "__setattr__" l) = some () := by
  rcases or10 i (by first | assumption | omega) with rfl | rfl | rfl | rfl | rfl | rfl | rfl | rfl | rfl | rfl <;> kernel_rfl
section
variable {w : World} {A : Around} {h₀ : Heap} {L e : Addr} {m : Str → Option Value} {s : Shared} {l news : List (Addr × Obj)} {E : Value → Shared → Prop} {i : Nat} {R : Result → Shared → Prop} {oe : Obj} {od : Option Obj} {name : Str} {v : Value}
theorem osa_exc {r : Option Value} (X : (k0.heap_1 w.params).In s.heap) (hi : i < 10) (I : W.InstAt s.heap e oe (clsA i) od) {tk : Tok} {a : Option Value} (ha : findIn (k0.heap_1 w.params) (.ref (clsA i)) name = some a) (hs : Looks (MG w) s.heap (storeTaker? a) r)
    (h : ∀ b, wpAny (MG w) A.in1 (match r with | some a => setByDescriptor a (.ref e) v | none => storeInOwnDict (.ref e) (.ref (clsA i)) (.str name tk) name v b)
      (fun fin s' => match fin with | .done f => R (.ok f) s' | .again c' => c'.quiet = true ∧ codeAny (MG w) A c' R s') (fun e s' => R (.error e) s') s) :
    codeAny (MG w) A (.call (.builtin "object.__setattr__") ⟨[.ref e, .str name tk, v], []⟩) R s := by
  have SF := PySem.F.store_object
  have ht := List.all_eq_true.mp (set_tab w) i (List.mem_range.mpr hi)
  simp only [Bool.and_eq_true, beq_iff_eq] at ht
  have sub : Looks (MG w) s.heap (isInstance (.ref e) (.type "object")) true := I.type.andThen (Looks.of_peek X ht.2)
  refine codeAny_call_builtin SF.slot.plain SF.entry (@check_slot (MG w) _ _ s "object.__setattr__" "object" "__setattr__" (.ref e) [.str name tk, v] [] _ SF.kind SF.split sub (SF.args (.ref e) (.str name tk) v) ?_)
  rw [osa_eq, refuse_eq]
  refine wpAny_bind (wpAny_bind (I.type.here ((Looks.of_peek (M := MG w) X (refuse_tab w hi (.ref e))).here ?_)))
  exact wpAny_bind (I.type.here (wpAny_bind ((looks_findIn X ha).here (wpAny_bind (hs.here (h _))))))

theorem dict_store {A' : Around} {dx : Addr} {mA : Str → Option Value} {ns : List Str} {tk : Tok} {s : Shared} {Q : Fin → Shared → Prop} (hd : s.heap.Ns1 dx mA) (hw : Within mA ns) (hz : ns.length ≤ 100)
    (h : ∀ h' tk' od', Heap.SameBut dx s.heap h' → h'.get? dx = some od' → Ns1O od' (fun y => if y = name then some v else mA y) → Q (.done (.ret .none)) { s with heap := h', toks := tk' }) :
    wpAny (MG w) A' (storeInDict dx (.str name tk) name v) Q E s := by
  unfold storeInDict newKeyGuard
  refine wpAny_bind (wpAny_pure (wpAny_bind (wpAny_nsSet1 hd fun h' hn' hs => ?_)))
  obtain ⟨oD, esD, epD, hoD, hdD, hcD⟩ := hn'.count (Within.cons name v hw)
  obtain ⟨od', ho', hno⟩ := ns1_obj hn'
  refine wpAny_bind (wpAny_lookBehind (o := oD) hoD (by rw [hdD]; exact pastItsLine_dict (Nat.le_trans hcD (by rw [List.length_cons, sizeLine_eq]; omega))) ?_)
  exact wpAny_pure (h h' _ od' hs ho' hno)
theorem exc_store {ns : List Str} {Q : Unit → Shared → Prop} (X : (k0.heap_1 w.params).In h₀) (hi : i < 10) (F : Fr h₀ L s.heap m) (N : News h₀ L s.heap l) (H : EL e (clsA i) ns l) (ha : findIn (k0.heap_1 w.params) (.ref (clsA i)) name = some none) (hz : ns.length ≤ 50)
    (h : ∀ l' h' tk', EL e (clsA i) (name :: ns) l' → Fr h₀ L h' m → News h₀ L h' l' → Q () { s with heap := h', toks := tk' }) : wpAny (MG w) A (setAttr (.ref e) name v) Q E s := by
  obtain ⟨oe, hr, hd⟩ := H
  have Xs := X.keeps F.keep
  have ht := List.all_eq_true.mp (set_tab w) i (List.mem_range.mpr hi)
  simp only [Bool.and_eq_true, beq_iff_eq] at ht
  obtain ⟨cd, hcc, hcd⟩ := any_some ht.1.2
  obtain ⟨hc, vs, a0, hdat, hv0, hv1⟩ := hr
  have he : (e, oe) ∈ l := by rcases hd with ⟨_, rfl⟩ | ⟨dx, od, mA, _, _, _, _, rfl⟩ <;> exact .head _
  obtain ⟨he1, he2, he3⟩ := N _ he
  have I : ∃ od, W.InstAt s.heap e oe (clsA i) od := by
    rcases hd with ⟨hn, _⟩ | ⟨dx, od, mA, hdx, _, _, _, rfl⟩
    · exact ⟨none, he1, hc, by unfold notCls; rw [hdat], by rw [hn]; trivial⟩
    · exact ⟨some od, he1, hc, by unfold notCls; rw [hdat], by rw [hdx]; exact (N _ (.tail _ (.head _))).1⟩
  obtain ⟨od0, I⟩ := I
  refine set_plain Xs I ht.1.1 ?_
  refine osa_exc (s := { s with toks := s.toks + 1 }) Xs hi I ha (Looks.of_pure rfl) fun b => ?_
  show wpAny _ _ (storeInOwnDict (.ref e) (.ref (clsA i)) (.str name s.toks) name v b) _ _ _
  unfold storeInOwnDict
  refine wpAny_bind (wpAny_pure ?_)
  rw [if_neg (c := (Value.ref (clsA i) == Value.type "module") = true) Bool.false_ne_true]
  unfold ownDictForStores instanceDict
  refine wpAny_bind (wpAny_bind (wpAny_loadPart he1 ?_))
  obtain ⟨oc, odd, odt, osl⟩ := oe
  dsimp only at hc hdat hd
  subst hc hdat
  dsimp only
  refine wpAny_bind (Looks.here (s := { s with toks := s.toks + 1 }) (looks_clsIn (M := MG w) Xs hcc) ?_)
  rw [hcd, if_neg (by decide)]
  have keepL : L ≠ e := Ne.symm he2
  rcases hd with ⟨rfl, rfl⟩ | ⟨dx, od, mA, rfl, hne, hno, hw, rfl⟩
  · have hes : e ≠ s.heap.objs.size := Nat.ne_of_lt (Heap.lt_size he1)
    have he1' : (s.heap.push emptyDict).get? e = some { cls := .ref (clsA i), data := .fields vs, slots := osl } := Heap.get?_push_of_some _ he1
    show wpAny _ _ (do let d ← alloc emptyDict; update e (fun o => { cls := o.cls, dict := some d, data := o.data, slots := o.slots }); dictMade (.ref (clsA i)) e d) _ _ { s with toks := s.toks + 1 }
    refine wpAny_bind (wpAny_alloc (wpAny_bind (wpAny_update (o := { cls := .ref (clsA i), data := .fields vs, slots := osl }) he1' ?_)))
    show wpAny _ _ (pure (some s.heap.objs.size)) _ _ _
    refine wpAny_pure ?_
    have gd : ((s.heap.push emptyDict).update e fun o => { cls := o.cls, dict := some s.heap.objs.size, data := o.data, slots := o.slots }).get? s.heap.objs.size = some emptyDict :=
      (Heap.get?_update_ne _ _ _ _ hes.symm).trans (Heap.get?_push_at rfl rfl)
    have ge : ((s.heap.push emptyDict).update e fun o => { cls := o.cls, dict := some s.heap.objs.size, data := o.data, slots := o.slots }).get? e = some { cls := .ref (clsA i), dict := some s.heap.objs.size, data := .fields vs, slots := osl } :=
      Heap.get?_update_self _ he1' rfl
    have gk : ∀ b o, b ≠ e → s.heap.get? b = some o → ((s.heap.push emptyDict).update e fun o => { cls := o.cls, dict := some s.heap.objs.size, data := o.data, slots := o.slots }).get? b = some o := fun b o hb eb =>
      (Heap.get?_update_ne _ _ _ _ hb).trans (Heap.get?_push_of_some _ eb)
    have n1 : ((s.heap.push emptyDict).update e fun o => { cls := o.cls, dict := some s.heap.objs.size, data := o.data, slots := o.slots }).Ns1 s.heap.objs.size (fun _ => none) :=
      Heap.Ns1.of_empty ⟨_, #[], _, gd, rfl, fun e he => absurd he (by simp), fun _ => rfl⟩
    refine dict_store (ns := []) n1 Within.nil (by decide) fun h' tk' od' hs hod hno => ?_
    have lsz : L ≠ s.heap.objs.size := Nat.ne_of_lt F.ns.lt
    have dn : h₀.get? s.heap.objs.size = none := fresh_in F (Nat.le_refl _)
    refine h [(e, { cls := .ref (clsA i), dict := some s.heap.objs.size, data := .fields vs, slots := osl }), (s.heap.objs.size, od')] h' tk' ⟨_, ⟨rfl, vs, a0, rfl, hv0, hv1⟩, .inr ⟨s.heap.objs.size, od', _, rfl, hes.symm, hno, fun y hy => ?_, rfl⟩⟩ ⟨?_, fun b ob eb => ?_, F.above⟩ fun q hq => ?_
    · by_cases hyn : y = name
      · rw [hyn]; exact .head _
      · simp [hyn] at hy
    · exact Ns_up F.ns fun o eo => ⟨o.slots, (hs.2 L lsz).trans (gk L o keepL eo)⟩
    · have hb := F.keep b ob eb
      refine (hs.2 b (Nat.ne_of_lt (Heap.lt_size hb))).trans (gk b ob (fun q => ?_) hb)
      rw [q] at eb
      rw [show h₀.get? e = none from he3] at eb; cases eb
    · rcases List.mem_cons.mp hq with rfl | hq
      · exact ⟨(hs.2 e hes).trans ge, he2, he3⟩
      · rw [List.mem_singleton.mp hq]; exact ⟨hod, lsz.symm, dn⟩
  · obtain ⟨hd1, hd2, hd3⟩ := N (dx, od) (.tail _ (.head _))
    refine wpAny_pure ?_
    refine dict_store (s := { s with toks := s.toks + 1 }) (hno.ns hd1) hw (Nat.le_trans hz (by decide)) fun h' tk' od' hs hod hno' => ?_
    refine h [(e, { cls := .ref (clsA i), dict := some dx, data := .fields vs, slots := osl }), (dx, od')] h' tk' ⟨_, ⟨rfl, vs, a0, rfl, hv0, hv1⟩, .inr ⟨dx, od', _, rfl, hne, hno', Within.cons name v hw, rfl⟩⟩ ⟨?_, fun b ob eb => ?_, F.above⟩ fun q hq => ?_
    · exact Ns_up F.ns fun o eo => ⟨o.slots, (hs.2 L (Ne.symm hd2)).trans eo⟩
    · have hb := F.keep b ob eb
      refine (hs.2 b (fun q => ?_)).trans hb
      rw [q] at eb
      rw [show h₀.get? dx = none from hd3] at eb; cases eb
    · rcases List.mem_cons.mp hq with rfl | hq
      · exact ⟨(hs.2 e (Ne.symm hne)).trans he1, he2, he3⟩
      · rw [List.mem_singleton.mp hq]; exact ⟨hod, hd2, hd3⟩

theorem gs_slot : Slot "getset_descriptor" "__set__" "getset_descriptor.__set__" :=
  Slot.of (owner := "getset_descriptor") (n := "__set__") (by rw [typeLookup_type, builtinLookup_eq_fast]; kernel_rfl) (by decide +kernel) (by decide +kernel) (by decide +kernel) (.inl (by decide +kernel)) (by rw [isSubtype_type]; kernel_rfl)
theorem gs_entry : entryFor table "getset_descriptor.__set__" = some Builtin.«getset_descriptor.__set__» := entryFor_of_tree (by kernel_rfl)
theorem gs_args (a b c : Value) : argsOk "getset_descriptor.__set__" ⟨[a, b, c], []⟩ := by unfold argsOk; kernel_rfl
theorem gs_kind : builtinKind "getset_descriptor.__set__" = some .slot := by decide +kernel
theorem gs_split : splitId "getset_descriptor.__set__" = some ("getset_descriptor", "__set__") := by decide +kernel
theorem ba_type : typeOf (.builtin "BaseException.args") = pure (.type "getset_descriptor") := by show builtinType _ = _; rw [builtinType_eq_fast]; kernel_rfl
theorem ba_entry : entryFor table "BaseException.args#set" = some Builtin.«BaseException.args#set» := entryFor_of_tree (by kernel_rfl)
theorem ba_names : Getset_descriptor.descrNameAndClass (.builtin "BaseException.args") = pure (Str.ofString "args", Value.type "BaseException") := by kernel_rfl
theorem args_tab (w : World) : ((List.range 10).all fun i => findIn (k0.heap_1 w.params) (.ref (clsA i)) "args" == some (some (.builtin "BaseException.args")) &&
   peek (k0.heap_1 w.params) ⟨PySem.Challenge.rw_ny0334_01.prog, w.params⟩ (isSubtype (.ref (clsA i)) (.type "BaseException")) == some true) = true := by kernel_rfl
theorem ba_takes (w : World) : peek (k0.heap_1 w.params) ⟨PySem.Challenge.rw_ny0334_01.prog, w.params⟩ (storeTaker? (some (.builtin "BaseException.args"))) = some (some (.builtin "BaseException.args")) := by kernel_rfl

theorem exc_args {ns : List Str} {Q : Unit → Shared → Prop} {Tt : Addr} {its : Array Value} {k : Nat} (X : (k0.heap_1 w.params).In h₀) (hi : i < 10) (F : Fr h₀ L s.heap m) (N : News h₀ L s.heap l) (H : EL e (clsA i) ns l) (hT : s.heap.get? Tt = some { cls := .type "tuple", data := .seq its k })
    (h : ∀ oe' h' tk', RestO (clsA i) oe' → Fr h₀ L h' m → News h₀ L h' [(e, oe')] → Q () { s with heap := h', toks := tk' }) : wpAny (MG w) A (setAttr (.ref e) "args" (.ref Tt)) Q E s := by
  obtain ⟨oe, hr, hd⟩ := H
  have Xs := X.keeps F.keep
  have ht := List.all_eq_true.mp (set_tab w) i (List.mem_range.mpr hi)
  simp only [Bool.and_eq_true, beq_iff_eq] at ht
  have hta := List.all_eq_true.mp (args_tab w) i (List.mem_range.mpr hi)
  simp only [Bool.and_eq_true, beq_iff_eq] at hta
  obtain ⟨hc, vs, a0, hdat, hv0, hv1⟩ := hr
  have he : (e, oe) ∈ l := by rcases hd with ⟨_, rfl⟩ | ⟨dx, od, mA, _, _, _, _, rfl⟩ <;> exact .head _
  obtain ⟨he1, he2, he3⟩ := N _ he
  have I : ∃ od, W.InstAt s.heap e oe (clsA i) od := by
    rcases hd with ⟨hn, _⟩ | ⟨dx, od, mA, hdx, _, _, _, rfl⟩
    · exact ⟨none, he1, hc, by unfold notCls; rw [hdat], by rw [hn]; trivial⟩
    · exact ⟨some od, he1, hc, by unfold notCls; rw [hdat], by rw [hdx]; exact (N _ (.tail _ (.head _))).1⟩
  obtain ⟨od0, I⟩ := I
  refine set_plain Xs I ht.1.1 ?_
  refine osa_exc (s := { s with toks := s.toks + 1 }) Xs hi I hta.1 (Looks.of_peek (M := MG w) Xs (ba_takes w)) fun b => ?_
  show wpAny _ _ (setByDescriptor (.builtin "BaseException.args") (.ref e) (.ref Tt)) _ _ _
  unfold setByDescriptor callSpecial? specialOf
  have L1 : Looks (MG w) s.heap (typeOf (.builtin "BaseException.args")) (.type "getset_descriptor") := Looks.of_pure ba_type
  have L2 : Looks (MG w) s.heap (typeLookup (.type "getset_descriptor") "__set__") (some (.builtin "getset_descriptor.__set__")) := Looks.of_pure gs_slot.lookup
  refine wpAny_bind (wpAny_rule (wpAny_bind (wpAny_holding (wpAny_bind (wpAny_bind (Looks.here (s := { s with toks := s.toks + 1 }) L1 (Looks.here (s := { s with toks := s.toks + 1 }) L2 (wpAny_holding ?_))))))))
  rw [gs_slot.bind]
  refine wpAny_bind (wpAny_pure (wpAny_bind (wpAny_call ?_)))
  have I1 : Looks (MG w) s.heap (isInstance (.builtin "BaseException.args") (.type "getset_descriptor")) true := L1.andThen (Looks.of_pure (by rw [isSubtype_type]; kernel_rfl))
  refine codeAny_call_builtin gs_slot.plain gs_entry (@check_slot (MG w) _ _ { s with toks := s.toks + 1 } "getset_descriptor.__set__" "getset_descriptor" "__set__" (.builtin "BaseException.args") [.ref e, .ref Tt] [] _ gs_kind gs_split I1 (gs_args _ _ _) ?_)
  have I2 : Looks (MG w) s.heap (isInstance (.ref e) (.type "BaseException")) true := I.type.andThen (Looks.of_peek Xs hta.2)
  show wpAny _ _ (do Getset_descriptor.descrCheckInstance (.builtin "BaseException.args") (.ref e); again (.builtin "BaseException.args#set" ⟨[.ref e, .ref Tt], []⟩)) _ _ _
  unfold Getset_descriptor.descrCheckInstance
  rw [ba_names]
  refine wpAny_bind (wpAny_bind (wpAny_pure (wpAny_bind (Looks.here (s := { s with toks := s.toks + 1 }) I2 ?_))))
  rw [if_neg (by decide)]
  refine wpAny_pure (wpAny_pure (And.intro (Code.quiet_builtin _ (by decide +kernel)) (codeAny_builtin ba_entry ?_)))
  unfold Builtin.«BaseException.args#set» BaseException.bexcPut
  dsimp only
  refine wpAny_bind (call_tuple_same (s := { s with toks := s.toks + 1 }) ⟨_, hT, rfl, _, rfl⟩ ?_)
  have hsz : 0 < vs.size := (Array.getElem?_eq_some_iff.mp hv0).1
  have hd' := Obj.data_mapFields hdat (·.setIfInBounds 0 (.ref Tt))
  have ge := Heap.get?_update_self (Obj.mapFields (·.setIfInBounds 0 (.ref Tt))) he1 (Obj.isFreed_of_fields hd')
  have gk : ∀ b o, b ≠ e → s.heap.get? b = some o → (s.heap.update e (Obj.mapFields (·.setIfInBounds 0 (.ref Tt)))).get? b = some o := fun b o hb eb => by
    rw [Heap.get?_update_other _ _ (fun q => hb q.symm)]; exact eb
  have fin : ∀ tk', Q () { s with heap := s.heap.update e (Obj.mapFields (·.setIfInBounds 0 (.ref Tt))), toks := tk' } := fun tk' => by
    refine h (oe.mapFields (·.setIfInBounds 0 (.ref Tt))) _ tk' ⟨by obtain ⟨c, d, dt, sl⟩ := oe; cases hdat; exact hc, _, .ref Tt, hd', by simp [hsz], ?_⟩ ⟨?_, fun b ob eb => ?_, F.above⟩ fun q hq => ?_
    · rw [Array.getElem?_setIfInBounds_ne (by decide)]; exact hv1
    · exact Ns_up F.ns fun o eo => ⟨o.slots, gk L o (Ne.symm he2) eo⟩
    · have hb := F.keep b ob eb
      refine gk b ob (fun q => ?_) hb
      rw [q] at eb
      rw [show h₀.get? e = none from he3] at eb; cases eb
    · rw [List.mem_singleton.mp hq]; exact ⟨ge, he2, he3⟩
  refine wpAny_bind (wpAny_bind (wpAny_field (s := { s with toks := s.toks + 1 }) he1 hdat hv0 (wpAny_bind (wpAny_setField (s := { s with toks := s.toks + 1 }) he1 hdat hsz ?_))))
  split
  · exact wpAny_letGo (wpAny_pure (wpAny_pure (wpAny_pure (fin _))))
  · exact wpAny_pure (wpAny_pure (wpAny_pure (wpAny_pure (fin _))))
end
end Mine
end

section
open PySem PySem.Spec PySem.Calls PySem.W PyProof.Rows PySem.Builtin PySem.Builtin.OSError PySem.Builtin.ObjectAttr
set_option Elab.async false
set_option maxRecDepth 100000
set_option maxHeartbeats 2000000
set_option linter.unusedVariables false
namespace Mine
theorem names_tab (w : World) : ((List.range 10).all fun i => findIn (k0.heap_1 w.params) (.ref (clsA i)) "smtp_code" == some none && findIn (k0.heap_1 w.params) (.ref (clsA i)) "smtp_error" == some none &&
   findIn (k0.heap_1 w.params) (.ref (clsA i)) "sender" == some none && findIn (k0.heap_1 w.params) (.ref (clsA i)) "recipients" == some none) = true := by kernel_rfl
theorem BornO.el {C e : Addr} {oe : Obj} (h : BornO C oe) : EL e C [] [(e, oe)] := ⟨oe, h.rest, .inl ⟨h.2.1, rfl⟩⟩
section
variable {w : World} {base : Heap} {p : Program} {loose : List Str} {mean : ExcName → Option Value} {mg mb : Str → Option Value}
theorem init220 (X : (k0.heap_1 w.params).In base) (T : Top p loose mean mg mb base) {i : Nat} (hi : i < 10) (e : Addr) (oe : Obj) (hB : BornO (clsA i) oe) (c mv : Value) :
    Con w base 220 [.ref e, c, mv] 2 [(e, oe)] (fun v l => v = .none ∧ ∃ oe', l = [(e, oe')] ∧ RestO (clsA i) oe') (fun _ _ => False) := by
  k_with_none
  k_with "setAttr ref" => refine here ?_
  have hn := List.all_eq_true.mp (names_tab w) i (List.mem_range.mpr hi)
  simp only [Bool.and_eq_true, beq_iff_eq] at hn
  refine' Con.of (binds := [(Str.ofString "self", .ref e), (Str.ofString "code", c), (Str.ofString "msg", mv)]) X T ?ho ?hcd ?hb ?hl ?h ?c2 ?c3 ?c4 ?c5
  k_dflt ((case ho => k_is); (case hcd => k_is); (case hb => exact fun _ => BindsTo.of_eq rfl); (case hl => exact locs rfl); (case c2 => exact rfl); (case c3 => exact rfl); (case c4 => exact rfl); (case c5 => decide))
  intro dp envs gd un s g L h₁ tk hdp hun B Xg Tg F N hlt
  have H := hB.el (e := e)
  try k_fold
  k_steps
  refine here (exc_store (v := c) Xg hi F N H hn.1.1.1 (by decide) fun l1 h1 tk1 H1 F1 N1 => ?_)
  clear F N H
  k_steps
  refine here (exc_store (v := mv) Xg hi F1 N1 H1 hn.1.1.2 (by decide) fun l2 h2 tk2 H2 F2 N2 => ?_)
  clear F1 N1 H1
  k_steps
  rename_i D3 h3 F3 N3 l3
  refine here (exc_args Xg hi F3 (fun q hq => N3 q (.tail _ hq)) H2 (N3 _ (.head _)).1 fun oe4 h4 tk4 R4 F4 N4 => ?_)
  clear F3 N3 H2 l3
  k_steps
  show BodyQ g L envs s _ .next _
  exact ⟨g, _, _, h4, _, rfl, Slid.refl .., F4, N4, rfl, oe4, rfl, R4⟩
theorem init239 (X : (k0.heap_1 w.params).In base) (T : Top p loose mean mg mb base) {i : Nat} (hi : i < 10) (e : Addr) (oe : Obj) (hB : BornO (clsA i) oe) (c mv sv : Value) :
    Con w base 239 [.ref e, c, mv, sv] 2 [(e, oe)] (fun v l => v = .none ∧ ∃ oe', l = [(e, oe')] ∧ RestO (clsA i) oe') (fun _ _ => False) := by
  k_with_none
  k_with "setAttr ref" => refine here ?_
  have hn := List.all_eq_true.mp (names_tab w) i (List.mem_range.mpr hi)
  simp only [Bool.and_eq_true, beq_iff_eq] at hn
  refine' Con.of (binds := [(Str.ofString "self", .ref e), (Str.ofString "code", c), (Str.ofString "msg", mv), (Str.ofString "sender", sv)]) X T ?ho ?hcd ?hb ?hl ?h ?c2 ?c3 ?c4 ?c5
  k_dflt ((case ho => k_is); (case hcd => k_is); (case hb => exact fun _ => BindsTo.of_eq rfl); (case hl => exact locs rfl); (case c2 => exact rfl); (case c3 => exact rfl); (case c4 => exact rfl); (case c5 => decide))
  intro dp envs gd un s g L h₁ tk hdp hun B Xg Tg F N hlt
  have H := hB.el (e := e)
  try k_fold
  k_steps
  refine here (exc_store (v := c) Xg hi F N H hn.1.1.1 (by decide) fun l1 h1 tk1 H1 F1 N1 => ?_)
  clear F N H
  k_steps
  refine here (exc_store (v := mv) Xg hi F1 N1 H1 hn.1.1.2 (by decide) fun l2 h2 tk2 H2 F2 N2 => ?_)
  clear F1 N1 H1
  k_steps
  refine here (exc_store (v := sv) Xg hi F2 N2 H2 hn.1.2 (by decide) fun l5 h5 tk5 H5 F5 N5 => ?_)
  clear F2 N2 H2
  k_steps
  rename_i D3 h3 F3 N3 l3
  refine here (exc_args Xg hi F3 (fun q hq => N3 q (.tail _ hq)) H5 (N3 _ (.head _)).1 fun oe4 h4 tk4 R4 F4 N4 => ?_)
  clear F3 N3 H5 l3
  k_steps
  show BodyQ g L envs s _ .next _
  exact ⟨g, _, _, h4, _, rfl, Slid.refl .., F4, N4, rfl, oe4, rfl, R4⟩
theorem init258 (X : (k0.heap_1 w.params).In base) (T : Top p loose mean mg mb base) {i : Nat} (hi : i < 10) (e : Addr) (oe : Obj) (hB : BornO (clsA i) oe) (c : Value) :
    Con w base 258 [.ref e, c] 2 [(e, oe)] (fun v l => v = .none ∧ ∃ oe', l = [(e, oe')] ∧ RestO (clsA i) oe') (fun _ _ => False) := by
  k_with_none
  k_with "setAttr ref" => refine here ?_
  have hn := List.all_eq_true.mp (names_tab w) i (List.mem_range.mpr hi)
  simp only [Bool.and_eq_true, beq_iff_eq] at hn
  refine' Con.of (binds := [(Str.ofString "self", .ref e), (Str.ofString "recipients", c)]) X T ?ho ?hcd ?hb ?hl ?h ?c2 ?c3 ?c4 ?c5
  k_dflt ((case ho => k_is); (case hcd => k_is); (case hb => exact fun _ => BindsTo.of_eq rfl); (case hl => exact locs rfl); (case c2 => exact rfl); (case c3 => exact rfl); (case c4 => exact rfl); (case c5 => decide))
  intro dp envs gd un s g L h₁ tk hdp hun B Xg Tg F N hlt
  have H := hB.el (e := e)
  try k_fold
  k_steps
  refine here (exc_store (v := c) Xg hi F N H hn.2 (by decide) fun l1 h1 tk1 H1 F1 N1 => ?_)
  clear F N H
  k_steps
  rename_i D3 h3 F3 N3 l3
  refine here (exc_args Xg hi F3 (fun q hq => N3 q (.tail _ hq)) H1 (N3 _ (.head _)).1 fun oe4 h4 tk4 R4 F4 N4 => ?_)
  clear F3 N3 H1 l3
  k_steps
  show BodyQ g L envs s _ .next _
  exact ⟨g, _, _, h4, _, rfl, Slid.refl .., F4, N4, rfl, oe4, rfl, R4⟩
end
end Mine
end

section
open PySem PySem.Spec PySem.Calls PySem.W PyProof.Rows PySem.Builtin PySem.Builtin.OSError PySem.Builtin.ObjectAttr
set_option Elab.async false
set_option maxRecDepth 100000
set_option maxHeartbeats 2000000
set_option linter.unusedVariables false
namespace Mine
theorem errs_of {led : List (Addr × Obj)} (hl : led.length = 10) (hp : led.Pairwise fun a b => @LT.lt Nat _ b.1 a.1) (hr : ∀ j (h : j < 10), RestO (clsA j) (led[9 - j]'(by omega)).2) :
    Errs (fun j => (led.getD (9 - j) (0, emptyDict)).1) led := by
  have at_ : ∀ j (h : j < 10), led.getD (9 - j) (0, emptyDict) = led[9 - j]'(by omega) := fun j h => by
    rw [List.getD_eq_getElem?_getD, List.getElem?_eq_getElem (by omega)]; rfl
  refine ⟨fun j => [led.getD (9 - j) (0, emptyDict)], fun j hj => ?_, fun i j hi hj hij p hpi q hqj => ?_, fun q => ⟨fun hq => ?_, ?_⟩⟩
  · dsimp only
    rw [at_ j hj]
    exact (hr j hj).exl
  · rw [List.mem_singleton.mp hpi, List.mem_singleton.mp hqj, at_ i hi, at_ j hj]
    rw [List.pairwise_iff_getElem] at hp
    rcases Nat.lt_or_gt_of_ne hij with h | h
    · exact Nat.ne_of_lt (hp (9 - j) (9 - i) (by omega) (by omega) (by omega))
    · exact Ne.symm (Nat.ne_of_lt (hp (9 - i) (9 - j) (by omega) (by omega) (by omega)))
  · obtain ⟨k, hk, e⟩ := List.mem_iff_getElem.mp hq
    refine ⟨9 - k, by omega, ?_⟩
    dsimp only
    rw [at_ (9 - k) (by omega), ← e]
    have : 9 - (9 - k) = k := by omega
    simp [this]
  · rintro ⟨j, hj, hq⟩
    rw [List.mem_singleton.mp hq, at_ j hj]
    exact List.getElem_mem _
inductive FaultsP (v : Value) (l : List (Addr × Obj)) : Prop
  | mk (lf : Addr) (fs : Nat → Addr) (led : List (Addr × Obj)) (n : Nat) (e : v = .ref lf) (el : l = (lf, W.listOf (errArr fs) n) :: led) (h : Errs fs led) : FaultsP v l
section
variable {w : World} {base : Heap} {p : Program} {loose : List Str} {mean : ExcName → Option Value} {mg mb : Str → Option Value}
theorem faults_con (X : (k0.heap_1 w.params).In base) (T : Top p loose mean mg mb base) :
    Con w base 318 [] 5 [] FaultsP (fun _ _ => False) := by
  k_with_none
  k_with "call ref" => refine here ?_
  refine' Con.of (binds := []) X T ?ho ?hcd ?hb ?hl ?h ?c2 ?c3 ?c4 ?c5
  k_dflt ((case ho => k_is); (case hcd => k_is); (case hb => exact fun _ => BindsTo.of_eq rfl); (case hl => exact locs rfl); (case c2 => exact rfl); (case c3 => exact rfl); (case c4 => exact rfl); (case c5 => decide))
  intro dp envs gd un s g L h₁ tk hdp hun B Xg Tg F N hlt
  try k_fold
  k_steps
  refine mk_plain (i := 0) (.inl rfl) Xg F N _ fun e0 o0 h0 F0 N0 R0 lt0 => ?_
  clear F N
  k_steps
  refine mk_init (i := 1) (by decide) rfl (by decide) rfl X (fun h Xh => Looks.of_peek Xh (os_check2 w (by decide) _ _)) (fun e oe hB => init220 X T (by decide) e oe hB _ _) B F0 N0 rfl rfl (by omega) (by omega) fun e1 o1 g1 h1 tk1 S1 B1 F1 N1 R1 lt1 => ?_
  clear F0 N0 Xg Tg
  have Xg := X.keeps B1.stays
  have Tg := T.keeps B1.stays
  k_steps
  refine mk_init (i := 2) (by decide) rfl (by decide) rfl X (fun h Xh => Looks.of_peek Xh (os_check3 w (by decide) _ _ _)) (fun e oe hB => init239 X T (by decide) e oe hB _ _ _) B1 F1 N1 rfl rfl (by omega) (by omega) fun e2 o2 g2 h2 tk2 S2 B2 F2 N2 R2 lt2 => ?_
  clear F1 N1 Xg Tg
  have Xg := X.keeps B2.stays
  have Tg := T.keeps B2.stays
  k_steps
  refine mk_init (i := 3) (by decide) rfl (by decide) rfl X (fun h Xh => Looks.of_peek Xh (os_check2 w (by decide) _ _)) (fun e oe hB => init220 X T (by decide) e oe hB _ _) B2 F2 N2 rfl rfl (by omega) (by omega) fun e3 o3 g3 h3 tk3 S3 B3 F3 N3 R3 lt3 => ?_
  clear F2 N2 Xg Tg
  have Xg := X.keeps B3.stays
  have Tg := T.keeps B3.stays
  k_steps
  rename_i Fx
  change Fr g3 L (h3.push emptyDict) _ at Fx
  have Nx := N3.push F3 emptyDict
  have lx : ∀ p ∈ [(e3, o3), (e2, o2), (e1, o1), (e0, o0)], @LT.lt Nat _ p.1 h3.objs.size := fun p hp => Heap.lt_size (N3 p hp).1
  generalize hDd : h3.objs.size = Dd at Nx lx ⊢
  generalize hh4 : h3.push emptyDict = h4 at Fx Nx ⊢
  clear F3 N3
  refine hideQ fun Q2 E2 hQ2 hE2 => ?_
  k_steps
  rename_i D5 h5 F5 N5 l5
  refine hQ2 _ _ ?_
  clear hQ2 hE2 Q2 E2
  dsimp only
  have hE : Obj.IsDictOf (PySem.strKind PySem.Challenge.rw_ny0334_01.prog w) emptyDict [] := kp_isDict (ex := []) 0 0 .nil
  refine pairTrees_nil_walk ⟨[(Str.ofString "a", .ref D5)], ⟨strKind_is _ _ _ _, rfl, trivial⟩, Heap.dictOf_iff.mpr ⟨_, (N5 _ (.tail _ (.head _))).1, hE⟩, fun h6 hd6 hs6 => ?_⟩
  have F6 := F5.change hs6 (N5 _ (.tail _ (.head _))).2.1 (N5 _ (.tail _ (.head _))).2.2
  have N6 : News g3 L h6 [(e3, o3), (e2, o2), (e1, o1), (e0, o0)] := fun q hq => ⟨hs6.extBut _ _ (Nat.ne_of_lt (lx q hq)) (N5 q (.tail _ (.tail _ hq))).1, (N5 q (.tail _ (.tail _ hq))).2⟩
  clear F5 N5 hd6 hs6 hE lx hDd hh4 l5
  k_steps
  refine mk_init (i := 4) (by decide) rfl (by decide) rfl X (fun h Xh => Looks.of_peek Xh (os_check1 w (by decide) _)) (fun e oe hB => init258 X T (by decide) e oe hB _) B3 F6 N6 rfl rfl (by omega) (by omega) fun e4 o4 g4 h4 tk4 S4 B4 F4 N4 R4 lt4 => ?_
  clear F6 N6 Xg Tg
  have Xg := X.keeps B4.stays
  have Tg := T.keeps B4.stays
  k_steps
  refine mk_plain (i := 5) (.inr (.inl rfl)) Xg F4 N4 _ fun e5 o5 h5 F5 N5 R5 lt5 => ?_
  clear F4 N4
  k_steps
  refine mk_plain (i := 6) (.inr (.inr rfl)) Xg F5 N5 _ fun e6 o6 h6 F6 N6 R6 lt6 => ?_
  clear F5 N5
  k_steps
  refine mk_init (i := 7) (by decide) rfl (by decide) rfl X (fun h Xh => Looks.of_peek Xh (os_check2 w (by decide) _ _)) (fun e oe hB => init220 X T (by decide) e oe hB _ _) B4 F6 N6 rfl rfl (by omega) (by omega) fun e7 o7 g7 h7 tk7 S7 B7 F7 N7 R7 lt7 => ?_
  clear F6 N6 Xg Tg
  have Xg := X.keeps B7.stays
  have Tg := T.keeps B7.stays
  k_steps
  refine mk_init (i := 8) (by decide) rfl (by decide) rfl X (fun h Xh => Looks.of_peek Xh (os_check2 w (by decide) _ _)) (fun e oe hB => init220 X T (by decide) e oe hB _ _) B7 F7 N7 rfl rfl (by omega) (by omega) fun e8 o8 g8 h8 tk8 S8 B8 F8 N8 R8 lt8 => ?_
  clear F7 N7 Xg Tg
  have Xg := X.keeps B8.stays
  have Tg := T.keeps B8.stays
  k_steps
  refine mk_init (i := 9) (by decide) rfl (by decide) rfl X (fun h Xh => Looks.of_peek Xh (os_check2 w (by decide) _ _)) (fun e oe hB => init220 X T (by decide) e oe hB _ _) B8 F8 N8 rfl rfl (by omega) (by omega) fun e9 o9 g9 h9 tk9 S9 B9 F9 N9 R9 lt9 => ?_
  clear F8 N8 Xg Tg
  have Xg := X.keeps B9.stays
  have Tg := T.keeps B9.stays
  k_steps
  rename_i lf hf Ff Nf lfl
  show BodyQ g L envs s _ (.ret (.ref lf)) _
  have hE := errs_of (led := [(e9, o9), (e8, o8), (e7, o7), (e6, o6), (e5, o5), (e4, o4), (e3, o3), (e2, o2), (e1, o1), (e0, o0)]) rfl (.cons lt9 (.cons lt8 (.cons lt7 (.cons lt6 (.cons lt5 (.cons lt4 (.cons lt3 (.cons lt2 (.cons lt1 (.cons lt0 .nil)))))))))) (fun j hj => by
    rcases or10 j (by first | assumption | omega) with rfl | rfl | rfl | rfl | rfl | rfl | rfl | rfl | rfl | rfl
    · exact R0
    · exact R1
    · exact R2
    · exact R3
    · exact R4
    · exact R5
    · exact R6
    · exact R7
    · exact R8
    · exact R9)
  exact ⟨g9, _, _, hf, _, rfl, S1.trans (S2.trans (S3.trans (S4.trans (S7.trans (S8.trans S9))))), Ff, Nf, lf, _, [(e9, o9), (e8, o8), (e7, o7), (e6, o6), (e5, o5), (e4, o4), (e3, o3), (e2, o2), (e1, o1), (e0, o0)], 0, rfl, rfl, hE⟩
end
end Mine
end

section
open PySem PySem.Spec PySem.Calls PySem.W PyProof.Rows PyProof.Rows.LCg PySem.SeqAt
set_option Elab.async false
set_option maxRecDepth 100000
set_option maxHeartbeats 2000000
set_option linter.unusedVariables false
namespace Mine
section
variable {w : World} {A A₀ : Around} {base g : Heap} {outer : List Env} {L : Addr} {m : Str → Option Value} {s : Shared} {news S : List (Addr × Obj)} {n : Nat} {P : Nat → Value → Prop} {env : Env} {x : Str} {px fpos : Pos} {iter : PySem.Expr} {body : List Stmt} {E : Value → Shared → Prop} {xv : Value} {Q : Flow → Shared → Prop}
theorem for_A (So : Source w A g L m s news xv S n P) (hfs : ∀ q ∈ S, q ∈ news)
    (J : Nat → (Str → Option Value) → List (Addr × Obj) → Prop) (hS : ∀ i m' led, J i m' led → ∀ q ∈ S, q ∈ led) (B : Below A₀ base outer g) (j0 : J 0 m news)
    (turn : ∀ I i v g' m' led o h tk, i < n → P i v → J i m' led → Slid (fra outer) g g' → Below A₀ base outer g' → Fr g' L h m' → News g' L h ((I, o) :: led) → (∀ q ∈ led, q.1 ≠ I) →
      wpAny (MG w) A (assign (.Name x px) env v) (fun _ s₂ => wpAny (MG w) A (execs body env) (fun f s₃ => match f with
        | .next | .cont => Goes outer g' L s (fun m'' l => ∃ led', l = (I, o) :: led' ∧ J (i + 1) m'' led' ∧ ∀ q ∈ led', q.1 ≠ I) s₃
        | .brk => Q .next s₃
        | .ret v => Q (.ret v) s₃) (fun _ _ => False) s₂) (fun _ _ => False) { s with heap := h, toks := tk })
    (fin : ∀ g' m' led h tk, J n m' led → Slid (fra outer) g g' → Below A₀ base outer g' → Fr g' L h m' → News g' L h led → Q .next { s with heap := h, toks := tk }) :
    ForSrc w A E Q x px body env xv s :=
  So _ _ fun I o₀ h₀ fp St W hth hfp hst F N hI => by
    refine codeAny_forLoop (ForS A₀ base outer g L s n (fun i m' led => J i m' led ∧ ∀ q ∈ led, q.1 ≠ I) I St) ?_ (n + 1)
      ⟨0, g, m, news, o₀, h₀, s.toks, rfl, rfl, Nat.zero_le _, ⟨j0, hI⟩, Slid.refl .., B, F, N, hst⟩
    intro k s' hP1; refine hideG fun G0 k0 => ?_; obtain ⟨i, g', m', led, o, h, tk, eq1, eq2, hi, ⟨hj, hjI⟩, Sl, B', F', N', st⟩ := hP1; refine k0 ?_; clear k0 G0; subst eq1; subst eq2
    by_cases hlt : i < n
    · refine step_iter (s := { s with heap := h, toks := tk }) W hth F' N' hjI hlt st fun v h1 tk1 o1 hP st1 F1 N1 => ?_
      refine wpAny_mono (turn I i v g' m' led o1 h1 tk1 hlt hP hj Sl B' F1 N1 hjI) (fun _ s₂ hf₂ => wpAny_mono hf₂ (fun f s₃ hf => ?_) fun _ _ q => q.elim) fun _ _ q => q.elim
      have go : Goes outer g' L s (fun m'' l => ∃ led', l = (I, o1) :: led' ∧ J (i + 1) m'' led' ∧ ∀ q ∈ led', q.1 ≠ I) s₃ → ∃ k', k' < n + 1 - i ∧ ForS A₀ base outer g L s n (fun i m' led => J i m' led ∧ ∀ q ∈ led, q.1 ≠ I) I St k' s₃ := by
        intro hP1; refine hideG fun G0 k0 => ?_; obtain ⟨g3, m3, l3, h3, tk3, eq1, S3, F3, N3, led3, eq2, j3, hI3⟩ := hP1; refine k0 ?_; clear k0 G0; subst eq1; subst eq2
        exact ⟨n + 1 - (i + 1), sub_step1 (by assumption), i + 1, g3, m3, led3, o1, h3, tk3, rfl, rfl, hlt, ⟨j3, hI3⟩, Sl.trans S3, below_slid B' S3, F3, N3, st_keep W hfp st1 (N1 (I, o1) (.head _)).1 (N3 (I, o1) (.head _)).1 fun q hq => ⟨(N1 q (.tail _ (hS _ _ _ hj q hq))).1, (N3 q (.tail _ (hS _ _ _ j3 q hq))).1⟩⟩
      cases f with
      | next => exact go hf
      | cont => exact go hf
      | brk => exact hf
      | ret v => exact hf
    · have hin : i = n := by omega
      subst hin
      exact stop_iter (s := { s with heap := h, toks := tk }) W F' N' hjI st fun h1 tk1 F1 N1 => wpAny_execs_nil (fin g' m' led h1 tk1 hj Sl B' F1 N1)
end
end Mine
end

section
open PySem PySem.Spec PySem.Calls PySem.W PyProof.Rows PyProof.Rows.LCg PySem.SeqAt
set_option Elab.async false
set_option maxRecDepth 100000
set_option maxHeartbeats 2000000
set_option linter.unusedVariables false
namespace Mine
theorem w_item {a1 a2 a3 a4 : Int} {t1 t2 t3 t4 : Tok} {i : Nat} (hi : i < 4) (b1 : 0 ≤ a1 ∧ a1 ≤ 9) (b2 : 0 ≤ a2 ∧ a2 ≤ 9) (b3 : 0 ≤ a3 ∧ a3 ≤ 9) (b4 : 0 ≤ a4 ∧ a4 ≤ 9) :
    ∃ a ta, #[Value.int a1 t1, .int a2 t2, .int a3 t3, .int a4 t4][((0 : Int) + (i : Int)).toNat]? = some (.int a ta) ∧ [a1, a2, a3, a4].getD i 0 = a ∧ 0 ≤ a ∧ a ≤ 9 := by
  rcases or4 i (by first | assumption | omega) with rfl | rfl | rfl | rfl
  · exact ⟨_, _, rfl, rfl, b1⟩
  · exact ⟨_, _, rfl, rfl, b2⟩
  · exact ⟨_, _, rfl, rfl, b3⟩
  · exact ⟨_, _, rfl, rfl, b4⟩
noncomputable abbrev wFix (W : Addr) (oW : Obj) (L : Addr) (ok o2 o3 : Obj) (la lf : Addr) (ola : Obj) (olf : Obj) (wl : List (Addr × Obj)) : List (Addr × Obj) := (W, oW) :: (L + 1 + 1 + 1, ok) :: (L + 1 + 1, o2) :: (L + 1, o3) :: (la, ola) :: (lf, olf) :: wl
theorem waits_short (four : List Int) {i : Nat} (hi : i < 4) : (waitsN four i).length ≤ 3 := by
  unfold waitsN
  rw [List.length_map]
  have e : ((List.range 4).filter fun j => decide (j ≠ i) && (taker [four.getD i 0, 0] (four.getD j 0).toNat == some (four.getD i 0))) = ((List.range 4).filter fun j => decide (j ≠ i)).filter fun j => (taker [four.getD i 0, 0] (four.getD j 0).toNat == some (four.getD i 0)) := by
    rw [List.filter_filter]
    refine List.filter_congr fun j _ => ?_
    rw [Bool.and_comm]
  rw [e]
  refine Nat.le_trans (List.length_filter_le _ _) ?_
  rcases or4 i (by first | assumption | omega) with rfl | rfl | rfl | rfl <;> decide
theorem waits_rng (four : List Int) (i : Nat) : ∀ j ∈ waitsN four i, 0 ≤ j ∧ j ≤ 3 := by
  intro j hj
  unfold waitsN at hj
  refine hideG fun G0 k0 => ?_; obtain ⟨k, hk, rfl⟩ := List.mem_map.mp hj; refine k0 ?_; clear k0 G0
  have := List.mem_range.mp (List.mem_filter.mp hk).1
  omega
theorem waits_step {w : World} {oW oW' : Obj} {kvs : List (Int × Value)} {wl : List (Addr × Obj)} {four : List Int} {i : Nat} {D : Addr} {ys : List Value} {n : Nat} (hi : i < 4) (h : WaitsAt w oW kvs wl ((List.range i).map (waitsN four))) (hd : oW'.IsDictOf (PySem.intKind PySem.Challenge.rw_ny0334_01.prog w) (stored kvs ((0 : Int) + (i : Int)) (.ref D))) (hy : IntsAre ys (waitsN four i)) :
    WaitsAt w oW' (kvs ++ [((0 : Int) + (i : Int), .ref D)]) ((D, W.listOf ys.toArray n) :: wl) ((List.range (i + 1)).map (waitsN four)) := by
  have hl : kvs.length = i := by rw [h.len]; simp
  have e : stored kvs ((0 : Int) + (i : Int)) (.ref D) = kvs ++ [((0 : Int) + (i : Int), .ref D)] := by
    unfold stored
    rw [if_neg]
    rw [List.any_eq_true]
    intro hP1; refine hideG fun G0 k0 => ?_; obtain ⟨x, hx, e⟩ := hP1; refine k0 ?_; clear k0 G0
    refine hideG fun G0 k0 => ?_; obtain ⟨j, hj, e2⟩ := List.mem_iff_getElem.mp hx; refine k0 ?_; clear k0 G0
    have h1 := (h.at_ j x.1 x.2 (by rw [List.getElem?_eq_getElem hj, e2])).1
    have h2 : x.1 = 0 + (i : Int) := of_decide_eq_true e
    omega
  rw [e] at hd
  have mm : ∀ l ∈ (List.range (i + 1)).map (waitsN four), ∃ k, k < 4 ∧ l = waitsN four k := fun l hl => by
    refine hideG fun G0 k0 => ?_; obtain ⟨k, hk, rfl⟩ := List.mem_map.mp hl; refine k0 ?_; clear k0 G0
    exact ⟨k, by have := List.mem_range.mp hk; omega, rfl⟩
  refine ⟨hd, by simp [hl], fun j k x hj => ?_, fun l hl => ?_, fun l hl => ?_⟩
  · by_cases hji : j < i
    · rw [List.getElem?_append_left (by omega)] at hj
      refine hideG fun G0 k0 => ?_; obtain ⟨h1, wa, va, na, h2, h3, h4⟩ := h.at_ j k x hj; refine k0 ?_; clear k0 G0
      refine ⟨h1, wa, va, na, h2, .tail _ h3, ?_⟩
      rw [List.range_succ, List.map_append, List.getD_eq_getElem?_getD, List.getElem?_append_left (by simpa using hji), ← List.getD_eq_getElem?_getD]
      exact h4
    · rw [List.getElem?_append_right (by omega)] at hj
      have hz : j - kvs.length = 0 := by
        rcases Nat.eq_zero_or_pos (j - kvs.length) with q | q
        · exact q
        · rw [List.getElem?_eq_none (by simp only [List.length_singleton]; omega)] at hj; cases hj
      have hji2 : j = i := by omega
      rw [hz] at hj
      simp only [List.getElem?_cons_zero, Option.some.injEq, Prod.mk.injEq] at hj
      refine ⟨by rw [← hj.1, hji2]; omega, D, ys, n, hj.2.symm, .head _, ?_⟩
      rw [hji2]
      simpa [List.getD_eq_getElem?_getD] using hy
  · refine hideG fun G0 k0 => ?_; obtain ⟨k, hk, rfl⟩ := mm l hl; refine k0 ?_; clear k0 G0
    exact waits_short four hk
  · refine hideG fun G0 k0 => ?_; obtain ⟨k, hk, rfl⟩ := mm l hl; refine k0 ?_; clear k0 G0
    exact waits_rng four k
inductive WaitsP (w : World) (as : List Int) (v : Value) (l : List (Addr × Obj)) : Prop
  | mk (Wa : Addr) (oW : Obj) (kvs : List (Int × Value)) (wl : List (Addr × Obj)) (e : v = .ref Wa) (el : l = (Wa, oW) :: wl) (hn : (Wa == sysModules) = false) (hW : WaitsAt w oW kvs wl (tableN as)) : WaitsP w as v l
inductive WtJ (w : World) (fs : Nat → Addr) (as : List Int) (Wd L la lf : Addr) (o2 o3 oa of_ : Obj) (i : Nat) (m' : Str → Option Value) (l : List (Addr × Obj)) : Prop
  | mk (oW ok : Obj) (vk : Option Value) (kvs : List (Int × Value)) (wl led' : List (Addr × Obj)) (em : m' = (fun y => if y = Str.ofString "waits" then some (.ref Wd) else none)) (ek : ok.data = .cell vk)
    (e : l = wFix Wd oW L ok o2 o3 la lf oa of_ wl ++ led') (hW : WaitsAt w oW kvs wl ((List.range i).map (waitsN as))) (hE : Errs fs led') (a1 : ∀ q ∈ wl, q.1 ≠ Wd ∧ q.1 ≠ L + 1 + 1 + 1) (a2 : ∀ q ∈ led', ∀ r ∈ wFix Wd oW L ok o2 o3 la lf oa of_ wl, q.1 ≠ r.1) : WtJ w fs as Wd L la lf o2 o3 oa of_ i m' l
section
variable {w : World} {base : Heap} {p : Program} {loose : List Str} {mean : ExcName → Option Value} {mg mb : Str → Option Value}
theorem waits_con (X : (k0.heap_1 w.params).In base) (T : Top p loose mean mg mb base) (la lf : Addr) (n n2 : Nat) (fs : Nat → Addr) (led : List (Addr × Obj)) (a1 a2 a3 a4 : Int) (t1 t2 t3 t4 : Tok) (hx : Errs fs led) (b1 : 0 ≤ a1 ∧ a1 ≤ 9) (b2 : 0 ≤ a2 ∧ a2 ≤ 9) (b3 : 0 ≤ a3 ∧ a3 ≤ 9) (b4 : 0 ≤ a4 ∧ a4 ≤ 9) (hlf : lf ≠ la) :
    Con w base 352 [.ref la, .ref lf] 6 ((la, W.listOf #[.int a1 t1, .int a2 t2, .int a3 t3, .int a4 t4] n) :: (lf, W.listOf (errArr fs) n2) :: led) (WaitsP w [a1, a2, a3, a4]) (fun _ _ => False) := by
  k_with_none
  k_with "sub1" => with_reducible (first | exact List.mem_cons_self | exact sub_refl | (refine List.mem_cons_of_mem _ ?_; walk_at "sub1") | (refine sub_tail ?_; walk_at "sub1") | (refine List.mem_append_left _ ?_; walk_at "sub1") | (refine List.mem_append_right _ ?_; walk_at "sub1") | (refine sub_left ?_; walk_at "sub1") | (refine sub_right ?_; walk_at "sub1") | assumption)
  k_with "sub" => with_reducible (first | exact sub_nil | (refine sub_cons ?_ ?_; (· walk_at "sub1"); walk_at "sub") | (refine sub_app ?_ ?_; (· walk_at "sub"); walk_at "sub") | walk_at "sub1")
  k_with "exec For Name Call cons nil" => refine here ?_
  k_with "eval ListComp" => refine here ?_
  k_with "call ref" => refine here ?_
  k_with "setItem ref int" => refine here ?_
  k_with "subscriptTail Name Name ref int" => (k_dflt (refine' sub_int ?N ?m ?h0 ?h1 ?hx ?_ ?hs; (case N => k_asm); (case m => k_mem); (case h0 => omega); (case h1 => omega); (case hx => first | assumption | exact errArr_at _ (by assumption)); (case hs => with_unfolding_all rfl); k_whole))
  k_with "subscriptTail Name Subscript ref int" => (k_dflt (refine' sub_int ?N ?m ?h0 ?h1 ?hx ?_ ?hs; (case N => k_asm); (case m => k_mem); (case h0 => omega); (case h1 => omega); (case hx => first | assumption | exact errArr_at _ (by assumption)); (case hs => with_unfolding_all rfl); k_whole))
  k_with "k_all" => assumption
  k_with "k_ne" => omega
  k_with "k_ne" => first | assumption | (refine Ne.symm ?_; assumption)
  refine' Con.ofC (binds := [(Str.ofString "four", .ref la), (Str.ofString "faults", .ref lf)]) X T ?ho ?hcd ?hb ?hl ?hn ?h ?c2 ?c3 ?c4
  k_dflt ((case ho => k_is); (case hcd => k_is); (case hb => exact fun _ => BindsTo.of_eq rfl); (case hl => exact rfl); (case hn => decide +kernel); (case c2 => exact rfl); (case c3 => exact rfl); (case c4 => exact rfl))
  intro dp envs gd un s g L h₁ tk cells hdp hun B Xg Tg F N Y hlt
  k_cells Y
  simp only [List.cons_append, List.nil_append] at N
  try k_fold
  k_steps
  refine for_E ?_ (fun _ => rfl)
  k_steps
  rename_i ok o2 o3 dk d2 d3 Wd hW oW lo1 hs1 fs1 hi1 fi1 l1 h2 F2 N2 h3 tx t5 u1 v1 R3 F3 N3 k3
  refine hideG fun G0 k0 => ?_; obtain ⟨l11, l12, l13, l14, l15, l16⟩ := l1; refine k0 ?_; clear k0 G0
  have l11' : @LT.lt Nat _ (L + 1 + 1 + 1) Wd := l11
  have l14' : @LT.lt Nat _ la Wd := l14
  have l15' : @LT.lt Nat _ lf Wd := l15
  have e2 : o2.data = .cell (some (.ref lf)) := d2
  have e3 : o3.data = .cell (some (.ref la)) := d3
  refine for_A (L := L) (source_range (n := 4) (by rfl) F3 N3 R3 (by decide) (by rfl)) (fun q hq => nomatch hq)
    (WtJ w fs [a1, a2, a3, a4] Wd L la lf o2 o3 (PySem.W.listOf #[Value.int a1 t1, Value.int a2 t2, Value.int a3 t3, Value.int a4 t4] n) (PySem.W.listOf (errArr fs) n2)) (fun _ _ _ _ q hq => nomatch hq) B ?_ ?_ ?_
  · refine ⟨oW, ok, _, [], [], led, funext fun y => ?_, dk, rfl, ⟨hi1, rfl, (fun i k x h => by simp at h), (fun l h => nomatch h), (fun l h => nomatch h)⟩, hx, (fun _ h => nomatch h), ?_⟩
    · by_cases e : y = Str.ofString "waits"
      · subst e; rfl
      · simp [e, bindL]; rfl
    · intro q hq r hr
      have hlq := allLt_mem l16 q hq
      simp only [List.mem_cons, List.not_mem_nil, or_false] at hr
      have hqL : @LT.lt Nat _ q.1 L := hlt q (.tail _ (.tail _ hq))
      rcases hr with rfl | rfl | rfl | rfl | rfl | rfl
      · exact Nat.ne_of_lt hlq
      · exact Nat.ne_of_lt (Nat.lt_of_lt_of_le hqL (by omega))
      · exact Nat.ne_of_lt (Nat.lt_of_lt_of_le hqL (by omega))
      · exact Nat.ne_of_lt (Nat.lt_of_lt_of_le hqL (by omega))
      · exact hx.ne N2 ((by walk_at "sub")) (a := la) (o := PySem.W.listOf #[Value.int a1 t1, Value.int a2 t2, Value.int a3 t3, Value.int a4 t4] n) (by walk_at "sub1") (fun vs h => by cases h) q hq
      · exact hx.ne N2 ((by walk_at "sub")) (a := lf) (o := PySem.W.listOf (errArr fs) n2) (by walk_at "sub1") (fun vs h => by cases h) q hq
  · intro I i v g' m' l o h tk' hi hP hJ Sl B' F' N' hI
    refine hideQ fun Q1 E1 hQ1 hE1 => ?_
    clear F2 N2 F3 N3 Xg Tg k3 R3
    have Xg := X.keeps B'.stays
    have Tg := T.keeps B'.stays
    obtain ⟨tv, rfl⟩ := hP
    refine hideG fun G0 k0 => ?_; obtain ⟨oW, ok, vk, kvs, wl, led', rfl, dk, rfl, hWt, hx', hwl, hap⟩ := hJ; refine k0 ?_; clear k0 G0
    refine hideG fun G0 k0 => ?_; obtain ⟨a, ta, hat, hga, ba⟩ := w_item (t1 := t1) (t2 := t2) (t3 := t3) (t4 := t4) hi b1 b2 b3 b4; refine k0 ?_; clear k0 G0
    simp only [List.cons_append] at N'
    have hla : @LT.lt Nat _ la L := hlt _ (.head _)
    have hlf' : @LT.lt Nat _ lf L := hlt _ (.tail _ (.head _))
    have i1 : @Ne Nat Wd I := hI _ (.head _)
    have i2 : @Ne Nat (L + 1 + 1 + 1) I := hI _ (.tail _ (.head _))
    have r1 : ∀ q ∈ wl ++ led', q.1 ≠ L + 1 + 1 + 1 := fun q hq => by
      rcases List.mem_append.mp hq with hq | hq
      · exact (hwl q hq).2
      · exact hap q hq _ (.tail _ (.head _))
    try k_fold
    k_steps
    rename_i h5 ok2 F5 N5 dk2
    clear dk
    refine hQ1 _ _ ?_
    clear hQ1 hE1 Q1 E1
    refine hideQ fun Q1 E1 hQ1 hE1 => ?_
    k_steps
    refine ListComp_J (by with_unfolding_all rfl) (by rfl) (by decide) ?_ (fun _ => rfl)
    k_steps
    rename_i h6 tx6 t6 u6 v6 R6 F6 N6 k6
    have hfix : ∀ q ∈ (I, o) :: wFix Wd oW L ok2 o2 o3 la lf (PySem.W.listOf #[Value.int a1 t1, Value.int a2 t2, Value.int a3 t3, Value.int a4 t4] n) (PySem.W.listOf (errArr fs) n2) wl, ∀ r ∈ led', r.1 ≠ q.1 := by
      intro q hq r hr
      revert q; refine all_cons (hI r (List.mem_append_right _ hr)) ?_; refine all_cons (hap r hr _ (.head _)) ?_; refine all_cons (hap r hr (L + 1 + 1 + 1, ok) (.tail _ (.head _))) ?_; intro q hq; exact hap r hr q (.tail _ (.tail _ hq))
    clear k6
    refine src_E (L := L) (source_range (n := 4) (by rfl) F6 N6 R6 (by decide) (by rfl)) (fun q hq => nomatch hq)
      (fun j ys l => Sel (fun j v => ∃ t, v = .int ((0 : Int) + (j : Int)) t) (fun j => decide (j ≠ i) && (taker [[a1, a2, a3, a4].getD i 0, 0] ([a1, a2, a3, a4].getD j 0).toNat == some ([a1, a2, a3, a4].getD i 0))) j ys ∧
        (j ≤ 4 ∧ ∃ ld, l = (I, o) :: wFix Wd oW L ok2 o2 o3 la lf (PySem.W.listOf #[Value.int a1 t1, Value.int a2 t2, Value.int a3 t3, Value.int a4 t4] n) (PySem.W.listOf (errArr fs) n2) wl ++ ld ∧ Errs fs ld ∧ ∀ r ∈ ld, ∀ q ∈ (I, o) :: wFix Wd oW L ok2 o2 o3 la lf (PySem.W.listOf #[Value.int a1 t1, Value.int a2 t2, Value.int a3 t3, Value.int a4 t4] n) (PySem.W.listOf (errArr fs) n2) wl, r.1 ≠ q.1))
      (fun _ _ _ _ q hq => nomatch hq) (fun j ys l hj => Nat.le_trans hj.1.len (Nat.le_trans hj.2.1 (by decide))) B' ⟨.zero, Nat.zero_le _, led', rfl, hx', fun r hr q hq => hfix q hq r hr⟩ (turns_filt (L := L) ?turn (by rfl) (by rfl) (by decide)) ?fin (by decide) (by rfl) (by rfl)
    case turn =>
      intro h7 I2 C D j v ys g3 oI oC m₂ led7 h8 tk8 hj hP hK S3 B3 F3 hC hx2 N3 ne off
      refine hideQ fun Q2 E2 hQ2 hE2 => ?_
      clear F6 N6 R6 Xg Tg
      have Xg := X.keeps B3.stays
      have Tg := T.keeps B3.stays
      obtain ⟨tj, rfl⟩ := hP
      refine hideG fun G0 k0 => ?_; obtain ⟨_, ld, rfl, hxd, hapd⟩ := hK; refine k0 ?_; clear k0 G0
      refine hideG fun G0 k0 => ?_; obtain ⟨b, tb, hbt, hgb, bb⟩ := w_item (t1 := t1) (t2 := t2) (t3 := t3) (t4 := t4) hj b1 b2 b3 b4; refine k0 ?_; clear k0 G0
      simp only [List.cons_append] at N3
      have hp9 : ∀ r, taker [a, 0] b.toNat = some r → j ≠ i → (decide (j ≠ i) && (taker [[a1, a2, a3, a4].getD i 0, 0] ([a1, a2, a3, a4].getD j 0).toNat == some ([a1, a2, a3, a4].getD i 0))) = decide (r = a) := fun r hr hn => by
        rw [hga, hgb, hr, decide_eq_true hn, Bool.true_and]; rfl
      have F3' := F3
      have endT : ∀ ld9 g9 h10 tk10, Errs fs ld9 → Slid (fra envs) g3 g9 → Fr g9 L h10 (fun y => if y = Str.ofString "waits" then some (.ref Wd) else none) → News g9 L h10 ((I2, oI) :: (C, oC) :: (D, lst ys) :: (I, o) :: (wFix Wd oW L ok2 o2 o3 la lf (PySem.W.listOf #[Value.int a1 t1, Value.int a2 t2, Value.int a3 t3, Value.int a4 t4] n) (PySem.W.listOf (errArr fs) n2) wl ++ ld9)) → (∀ q ∈ ld9, ∀ p ∈ (I2, oI) :: (C, oC) :: (D, lst ys) :: (I, o) :: wFix Wd oW L ok2 o2 o3 la lf (PySem.W.listOf #[Value.int a1 t1, Value.int a2 t2, Value.int a3 t3, Value.int a4 t4] n) (PySem.W.listOf (errArr fs) n2) wl, q.1 ≠ p.1) →
          Turn envs g3 L (fun y => if y = Str.ofString "waits" then some (.ref Wd) else none) { s with heap := h7, toks := tx6 } I2 oI C oC D (lst ys) (fun l => j + 1 ≤ 4 ∧ ∃ ld, l = (I, o) :: wFix Wd oW L ok2 o2 o3 la lf (PySem.W.listOf #[Value.int a1 t1, Value.int a2 t2, Value.int a3 t3, Value.int a4 t4] n) (PySem.W.listOf (errArr fs) n2) wl ++ ld ∧ Errs fs ld ∧ ∀ r ∈ ld, ∀ q ∈ (I, o) :: wFix Wd oW L ok2 o2 o3 la lf (PySem.W.listOf #[Value.int a1 t1, Value.int a2 t2, Value.int a3 t3, Value.int a4 t4] n) (PySem.W.listOf (errArr fs) n2) wl, r.1 ≠ q.1) { s with heap := h10, toks := tk10 } :=
        fun ld9 g9 h10 tk10 x1 x2 x3 x4 x5 => ⟨g9, (I, o) :: (wFix Wd oW L ok2 o2 o3 la lf (PySem.W.listOf #[Value.int a1 t1, Value.int a2 t2, Value.int a3 t3, Value.int a4 t4] n) (PySem.W.listOf (errArr fs) n2) wl ++ ld9), h10, tk10, rfl, x2, x3, x4, (fun q hq => by
          rcases List.mem_append.mp (show q ∈ ((I, o) :: wFix Wd oW L ok2 o2 o3 la lf (PySem.W.listOf #[Value.int a1 t1, Value.int a2 t2, Value.int a3 t3, Value.int a4 t4] n) (PySem.W.listOf (errArr fs) n2) wl) ++ ld9 from hq) with hq | hq
          · exact off q (List.mem_append_left _ hq)
          · exact ⟨x5 q hq (I2, oI) (.head _), x5 q hq (C, oC) (.tail _ (.head _)), x5 q hq (D, lst ys) (.tail _ (.tail _ (.head _)))⟩), hj, ld9, rfl, x1, fun r hr q hq => x5 r hr q (.tail _ (.tail _ (.tail _ hq)))⟩
      k_steps
      · rename_i hji hne D9 h9 F9 N9 l9
        have htk : taker [a, 0] b.toNat ≠ none := by
          unfold taker
          intro e
          rw [List.find?_eq_none] at e
          exact e 0 (by simp) (by simp [takesN])
        obtain ⟨r, hr⟩ := Option.ne_none_iff_exists'.mp htk
        replace hp9 := hp9 r hr (by omega)
        have lt9 : ∀ q ∈ (I2, oI) :: (C, oC) :: (D, lst ys) :: (I, o) :: wFix Wd oW L ok2 o2 o3 la lf (PySem.W.listOf #[Value.int a1 t1, Value.int a2 t2, Value.int a3 t3, Value.int a4 t4] n) (PySem.W.listOf (errArr fs) n2) wl, q.1 ≠ D9 := by
          refine hideG fun G0 k0 => ?_; obtain ⟨p1, p2, p3, p4, p5, p6, p7, p8, p9, p10, p11⟩ := l9; refine k0 ?_; clear k0 G0
          intro q hq
          simp only [List.mem_cons] at hq
          rcases hq with rfl | rfl | rfl | rfl | rfl | rfl | rfl | rfl | rfl | rfl | hq
          · exact Nat.ne_of_lt p1
          · exact Nat.ne_of_lt p2
          · exact Nat.ne_of_lt p3
          · exact Nat.ne_of_lt p4
          · exact Nat.ne_of_lt p5
          · exact Nat.ne_of_lt p6
          · exact Nat.ne_of_lt p7
          · exact Nat.ne_of_lt p8
          · exact Nat.ne_of_lt p9
          · exact Nat.ne_of_lt p10
          · exact Nat.ne_of_lt (allLt_mem p11 q (List.mem_append_left _ hq))
        have ap9 : ∀ q ∈ (I2, oI) :: (C, oC) :: (D, lst ys) :: (I, o) :: wFix Wd oW L ok2 o2 o3 la lf (PySem.W.listOf #[Value.int a1 t1, Value.int a2 t2, Value.int a3 t3, Value.int a4 t4] n) (PySem.W.listOf (errArr fs) n2) wl, ∀ p ∈ ld, p.1 ≠ q.1 := by
          intro q hq p hp
          have hoff := off p (List.mem_append_right _ hp)
          revert q; refine all_cons (hoff.1) ?_; refine all_cons (hoff.2.1) ?_; refine all_cons (hoff.2.2) ?_; intro q hq; exact hapd p hp q hq
        refine taker_use (led := ld) (others := (I2, oI) :: (C, oC) :: (D, lst ys) :: (I, o) :: wFix Wd oW L ok2 o2 o3 la lf (PySem.W.listOf #[Value.int a1 t1, Value.int a2 t2, Value.int a3 t3, Value.int a4 t4] n) (PySem.W.listOf (errArr fs) n2) wl) (fun l x => taker2 X T _ _ _ l b.toNat _ _ _ _ (by omega) x ba (by decide)) hr (by omega) hxd B3 F9 N9 (.head _) ((by walk_at "sub")) (fun vs h => by cases h) (fun q hq => ⟨?_, lt9 q hq, ap9 q hq⟩) rfl rfl (by omega) (by omega) ?_
        · simp only [List.mem_cons] at hq
          simp only [List.mem_cons, List.mem_append]
          rcases hq with h | h | h | h | h | h | h | h | h | h | h <;> simp [h]
        · intro t9 ld9 g9 h10 tk10 hx10 S10 B10 F10 N10 ap10
          simp only [List.cons_append] at N10
          clear N9 F9 Xg Tg lt9 ap9 l9
          have Xg := X.keeps B10.stays
          have Tg := T.keeps B10.stays
          k_steps
          · rename_i hra
            refine hQ2 _ _ ⟨by rw [hp9]; exact (decide_eq_true hra).symm, endT _ _ _ _ hx10 S10 F10 (news_sub N10 fun q hq => .tail _ hq) fun q hq => (ap10 q hq).2⟩
          · rename_i hra
            refine hQ2 _ _ ⟨by rw [hp9]; exact (decide_eq_false hra).symm, endT _ _ _ _ hx10 S10 F10 (news_sub N10 fun q hq => .tail _ hq) fun q hq => (ap10 q hq).2⟩
      · rename_i hji
        have hji' : j = i := by omega
        refine hQ2 _ _ ⟨by simp [hji'], endT _ _ _ _ hxd (Slid.refl ..) F3' N3 fun r hr q hq => ?_⟩
        have hoff := off r (List.mem_append_right _ hr)
        revert q; refine all_cons (hoff.1) ?_; refine all_cons (hoff.2.1) ?_; refine all_cons (hoff.2.2) ?_; intro q hq; exact hapd r hr q hq
    case fin =>
      intro ys D g9 led9 h9 tk9 hP1 S9 B9 F9 N9 off9; refine hideG fun G0 k0 => ?_; obtain ⟨hs9, _, ld, rfl, hxd, hapd⟩ := hP1; refine k0 ?_; clear k0 G0
      clear F6 N6 R6 Xg Tg
      have Xg := X.keeps B9.stays
      have Tg := T.keeps B9.stays
      simp only [List.cons_append] at N9
      k_steps
      have hdn : ∀ q ∈ (L + 1 + 1 + 1, ok2) :: (L + 1 + 1, o2) :: (L + 1, o3) :: (la, PySem.W.listOf #[Value.int a1 t1, Value.int a2 t2, Value.int a3 t3, Value.int a4 t4] n) :: (lf, PySem.W.listOf (errArr fs) n2) :: (wl ++ ld), q.1 ≠ Wd := by
        intro q hq
        simp only [List.mem_cons, List.mem_append] at hq
        rcases hq with rfl | rfl | rfl | rfl | rfl | hq | hq
        · exact Nat.ne_of_lt l11
        · exact Nat.ne_of_lt l12
        · exact Nat.ne_of_lt l13
        · exact Nat.ne_of_lt l14
        · exact Nat.ne_of_lt l15
        · exact (hwl q hq).1
        · exact hapd q hq (Wd, oW) (.tail _ (.head _))
      have hdp9 : ∀ q ∈ [(D, lst ys), (I, o)], q.1 ≠ Wd := by
        intro q hq
        simp only [List.mem_cons, List.not_mem_nil, or_false] at hq
        rcases hq with rfl | rfl
        · exact Ne.symm (off9 (Wd, oW) (.tail _ (.head _)))
        · exact Ne.symm i1
      refine kda_set (knd := PySem.intKind _ _) F9 N9 (updF_of (pre := [(D, lst ys), (I, o)]) hdn hdp9) hWt.dict (intKind_is _ _ _ _) (by rw [hWt.len]; simp only [List.length_map, List.length_range]; exact Nat.le_trans (Nat.le_of_lt hi) (by decide)) fun h10 oW10 F10 N10 hd10 => ?_
      have hy : IntsAre ys (waitsN [a1, a2, a3, a4] i) := by
        have := hs9.ints
        have e : (fun (j : Nat) => (0 : Int) + (j : Int)) = fun (j : Nat) => (j : Int) := funext fun j => Int.zero_add _
        rw [e] at this
        exact this
      refine wpAny_execs_nil (hQ1 _ _ ?_)
      show Goes envs g' L _ _ _
      refine ⟨g9, _, (I, o) :: (wFix Wd oW10 L ok2 o2 o3 la lf (PySem.W.listOf #[Value.int a1 t1, Value.int a2 t2, Value.int a3 t3, Value.int a4 t4] n) (PySem.W.listOf (errArr fs) n2) ((D, lst ys) :: wl) ++ ld), h10, _, rfl, S9, F10, news_sub N10 fun q hq => ?_, _, rfl, ⟨oW10, ok2, _, _, (D, lst ys) :: wl, ld, rfl, dk2, rfl, waits_step hi hWt hd10 hy, hxd, fun q hq => ?_, fun q hq r hr => ?_⟩, fun q hq => ?_⟩
      · revert q; walk_at "sub"
      · revert q; refine all_cons (⟨Ne.symm (off9 (Wd, oW) (.tail _ (.head _))), Ne.symm (off9 (L + 1 + 1 + 1, ok2) (.tail _ (.tail _ (.head _))))⟩) ?_; intro q hq; exact hwl q hq
      · simp only [List.mem_cons] at hr
        rcases hr with rfl | rfl | rfl | rfl | rfl | rfl | rfl | hr
        · exact hapd q hq (Wd, oW) (.tail _ (.head _))
        · exact hapd q hq _ (.tail _ (.tail _ (.head _)))
        · exact hapd q hq _ (.tail _ (.tail _ (.tail _ (.head _))))
        · exact hapd q hq _ (.tail _ (.tail _ (.tail _ (.tail _ (.head _)))))
        · exact hapd q hq _ (.tail _ (.tail _ (.tail _ (.tail _ (.tail _ (.head _))))))
        · exact hapd q hq _ (.tail _ (.tail _ (.tail _ (.tail _ (.tail _ (.tail _ (.head _)))))))
        · exact off9 q (List.mem_append_right _ hq)
        · exact hapd q hq r (.tail _ (.tail _ (.tail _ (.tail _ (.tail _ (.tail _ (.tail _ hr)))))))
      · simp only [List.cons_append, List.mem_cons, List.mem_append] at hq
        rcases hq with rfl | rfl | rfl | rfl | rfl | rfl | rfl | hq | hq
        · exact i1
        · exact i2
        · exact hI _ (.tail _ (.tail _ (.head _)))
        · exact hI _ (.tail _ (.tail _ (.tail _ (.head _))))
        · exact hI _ (.tail _ (.tail _ (.tail _ (.tail _ (.head _)))))
        · exact hI _ (.tail _ (.tail _ (.tail _ (.tail _ (.tail _ (.head _))))))
        · exact Ne.symm (off9 (I, o) (.head _))
        · exact hI q (.tail _ (.tail _ (.tail _ (.tail _ (.tail _ (.tail _ (List.mem_append_left _ hq)))))))
        · exact hapd q hq (I, o) (.head _)
  · intro g' m' l h tk' hP1 Sl B' F' N'; refine hideG fun G0 k0 => ?_; obtain ⟨oW, ok, vk, kvs, wl, led', rfl, dk, rfl, hWt, hx', hwl, hap⟩ := hP1; refine k0 ?_; clear k0 G0
    clear F2 N2 F3 N3 Xg Tg k3 R3
    have Xg := X.keeps B'.stays
    have Tg := T.keeps B'.stays
    dsimp only
    k_steps
    show BodyQ g L envs s _ (.ret (.ref Wd)) _
    refine ⟨g', _, (Wd, oW) :: wl, h, _, rfl, Sl, F', news_sub N' fun q hq => ?_, Wd, oW, kvs, wl, rfl, rfl, lo1, hWt⟩
    revert q; refine all_cons (.head _) ?_; intro q hq; exact List.mem_append_left _ (.tail _ (.tail _ (.tail _ (.tail _ (.tail _ (.tail _ hq))))))
end
end Mine
end

section
open PySem PySem.Spec PySem.Calls PySem.W PyProof.Rows PyProof.Rows.LCg PySem.SeqAt
set_option Elab.async false
set_option maxRecDepth 100000
set_option maxHeartbeats 2000000
set_option linter.unusedVariables false
namespace Mine
theorem sorter_cls (w : World) : makesIn (k0.heap_1 w.params) 137 = true ∧ findIn (k0.heap_1 w.params) (.ref 137) "__init__" = some (some (.ref 73)) ∧ typeIn (k0.heap_1 w.params) (.ref 73) = some (.type "function") := ⟨by kernel_rfl, by kernel_rfl, by kernel_rfl⟩
section
variable {w : World} {base g : Heap} {L : Addr} {m : Str → Option Value} {s : Shared} {news rest : List (Addr × Obj)} {Q E : Value → Shared → Prop}
  {p : Program} {loose : List Str} {mean : ExcName → Option Value} {mg mb : Str → Option Value}
theorem mk_sorter {dp un : Nat} {gd : Option (List Code)} {envs : List Env} {env : Env} {Wa : Addr} {oW : Obj} {kvs : List (Int × Value)} {wl : List (Addr × Obj)} {ws : List (List Int)} (X : (k0.heap_1 w.params).In base) (T : Top p loose mean mg mb base)
    (hW : WaitsAt w oW kvs wl ws) (hlo : (Wa == sysModules) = false) (hws : ws.length = 4)
    (B : Below (Ar dp envs gd un) base envs g) (F : Fr g L s.heap m) (N : News g L s.heap news) (hsub : ∀ q ∈ (Wa, oW) :: wl, q ∈ news) (hrest : ∀ q ∈ rest, q ∈ news ∧ q.1 ∉ ((Wa, oW) :: wl).map (·.1))
    (hf : env.frame = some L) (hke : env.scope.kind = .function) (hd : dp + 11 < recursionLimit) (hu : un + 904 ≤ 5000)
    (h : ∀ S sl g1 h1 tk1, Slid (fra envs) g g1 → Below (Ar dp envs gd un) base envs g1 → Fr g1 L h1 m → News g1 L h1 (sl ++ (Wa, oW) :: wl ++ rest) → SorterAt0 w S (initNs ws 4) sl → (∀ q ∈ sl, ∀ r ∈ (Wa, oW) :: wl ++ rest, q.1 ≠ r.1) → Q (.ref S) { s with heap := h1, toks := tk1 }) :
    wpAny (MG w) ((Ar dp envs gd un).deeper env) (call (.ref 137) [.ref Wa]) Q E s := by
  refine hideG fun G0 k0 => ?_; obtain ⟨c1, c2, c3⟩ := sorter_cls w; refine k0 ?_; clear k0 G0
  have Xs := (X.keeps B.stays).keeps F.keep
  refine wpAny_call (make_K F N Xs c1 c2 c3 fun x dx h' F' N' lt ltx => ?_)
  have e1 : ((Ar dp envs gd un).deeper env).under (.builtin "type.__call__" ⟨.ref 137 :: [.ref Wa], []⟩) = Ar (dp + 1 + 1) (env :: envs) gd (un + 3 + 1) := by
    show (Ar (dp + 1) (env :: envs) gd (un + 3)).under _ = _
    rw [under_mk, units_mk]
  rw [e1]
  have B₁ := pushX B F' hf hke
  have ltx' : ∀ q ∈ news, @LT.lt Nat _ q.1 x := fun q hq => Nat.lt_trans (lt q hq) ltx
  have sub : ∀ q ∈ (x, instObj 137 dx) :: (dx, dictOf [] 0) :: (Wa, oW) :: wl, q ∈ (x, instObj 137 dx) :: (dx, emptyDict) :: news := fun q hq => by
    revert q; refine all_cons (.head _) ?_; refine all_cons (.tail _ (.head _)) ?_; intro q hq; exact .tail _ (.tail _ (hsub q hq))
  have rst : ∀ q ∈ rest, q ∈ (x, instObj 137 dx) :: (dx, emptyDict) :: news ∧ q.1 ∉ ((x, instObj 137 dx) :: (dx, dictOf [] 0) :: (Wa, oW) :: wl).map (·.1) := fun q hq => by
    obtain ⟨h1, h2⟩ := hrest q hq
    refine ⟨.tail _ (.tail _ h1), fun hm => ?_⟩
    rcases List.mem_cons.mp hm with e | hm
    · exact Nat.ne_of_lt (ltx' q h1) e
    rcases List.mem_cons.mp hm with e | hm
    · exact Nat.ne_of_lt (lt q h1) e
    · exact h2 hm
  have C := init_con X T x dx Wa oW kvs wl ws hW hlo hws (Ne.symm (Nat.ne_of_lt ltx)) (Ne.symm (Nat.ne_of_lt (ltx' _ (hsub _ (.head _))))) (Ne.symm (Nat.ne_of_lt (lt _ (hsub _ (.head _)))))
    (fun q hq => Nat.ne_of_lt (ltx' q (hsub q (.tail _ hq)))) (fun q hq => Nat.ne_of_lt (lt q (hsub q (.tail _ hq))))
  refine codeAny_mono (C (dp + 1 + 1) (env :: envs) gd (un + 3 + 1) { s with heap := h' } (fun v s' => v = .none ∧ Q (.ref x) s') (fun _ _ => False) (by omega) (by omega) B₁.stays B₁.frames (ents_news B N' sub) (off_frames B N' hf sub) ?_ (fun _ _ _ _ h => h.elim)) fun r s' z => ?_
  · intro v led h1 tk1 hP1 Cg I hl; refine hideG fun G0 k0 => ?_; obtain ⟨eq1, sl, eq2, hS, hap⟩ := hP1; refine k0 ?_; clear k0 G0; subst eq1; subst eq2
    refine hideG fun G0 k0 => ?_; obtain ⟨g1, S1, B1, F1, N1, ap⟩ := after_call (s := { s with heap := h' }) B F' N' hf sub rst Cg I hl; refine k0 ?_; clear k0 G0
    refine ⟨rfl, h x sl g1 h1 tk1 S1 B1 F1 N1 hS fun q hq r hr => ?_⟩
    rcases List.mem_append.mp hr with hr | hr
    · exact hap q hq r hr
    · exact ap q (List.mem_append_left _ hq) r hr
  · rcases r with e | (v | _ | _ | _) <;> first | exact z | exact z.elim
end
end Mine
end

section
open PySem PySem.Spec PySem.Calls PySem.W PyProof.Rows PyProof.Rows.LCg PySem.SeqAt
set_option Elab.async false
set_option maxRecDepth 100000
set_option maxHeartbeats 2000000
set_option linter.unusedVariables false
namespace Mine
noncomputable def sdN (hs : List Int) (p : Nat) (x : Int) : List Int :=
  if p = 0 then hs.set p x else if x < hs.getD ((p - 1) / 2) 0 then sdN (hs.set p (hs.getD ((p - 1) / 2) 0)) ((p - 1) / 2) x else hs.set p x
termination_by p
decreasing_by exact Nat.lt_of_le_of_lt (Nat.div_le_self _ _) (Nat.sub_lt (Nat.pos_of_ne_zero ‹¬ p = 0›) Nat.one_pos)
theorem ints_set {vs : List Value} {ns : List Int} (h : IntsAre vs ns) : ∀ (i : Nat) (x : Int) (t : Tok), IntsAre (vs.set i (.int x t)) (ns.set i x) := by
  induction h with
  | nil => intros; exact .nil
  | cons n t' r ih =>
    intro i x t
    cases i with
    | zero => exact .cons x t r
    | succ i => exact .cons n t' (ih i x t)
theorem ints_getp {vs : List Value} {ns : List Int} (h : IntsAre vs ns) : ∀ {i : Nat}, i < ns.length → ∃ t, vs.toArray[i]? = some (.int (ns.getD i 0) t) := by
  induction h with
  | nil => intro i hi; exact absurd hi (Nat.not_lt_zero _)
  | cons n t r ih =>
    intro i hi
    cases i with
    | zero => exact ⟨t, rfl⟩
    | succ i =>
      obtain ⟨t', e⟩ := ih (Nat.lt_of_succ_lt_succ hi)
      exact ⟨t', by rw [List.getElem?_toArray] at e ⊢; exact e⟩
theorem m_key {m : Str → Option Value} {x : Str} {v : Value} {m' : Str → Option Value} (h : m x = some v) (e : m = m') : m = fun y => if y = x then some v else m' y := by
  subst e
  funext y
  split
  · next e => rw [e, h]
  · rfl
inductive SdJ (H : Addr) (x : Int) (t1 t0 : Tok) (r : List Int) : Nat → (Str → Option Value) → List (Addr × Obj) → Prop
  | mk (q : Nat) (tq : Tok) (hs : List Int) (vs : List Value) (k : Nat) (mm : Str → Option Value) (hv : IntsAre vs hs) (hq : q < hs.length) (hl : hs.length ≤ 4) (e : sdN hs q x = r) :
    SdJ H x t1 t0 r q (fun y => if y = Str.ofString "pos" then some (.int (q : Int) tq) else if y = Str.ofString "heap" then some (.ref H) else if y = Str.ofString "newitem" then some (.int x t1) else if y = Str.ofString "startpos" then some (.int 0 t0) else mm y) [(H, W.listOf vs.toArray k)]
theorem SdJ.of {H : Addr} {x : Int} {t1 t0 : Tok} {r : List Int} {q : Nat} {tq : Tok} {hs : List Int} {vs : List Value} {k : Nat} {m : Str → Option Value} (hv : IntsAre vs hs) (hq : q < hs.length) (hl : hs.length ≤ 4) (e : sdN hs q x = r)
    {z : Int} (h1 : m (Str.ofString "pos") = some (.int z tq)) (hz : z = (q : Int)) (h2 : m (Str.ofString "heap") = some (.ref H)) (h3 : m (Str.ofString "newitem") = some (.int x t1)) (h4 : m (Str.ofString "startpos") = some (.int 0 t0)) : SdJ H x t1 t0 r q m [(H, W.listOf vs.toArray k)] := by
  subst hz
  have := SdJ.mk (H := H) (t1 := t1) (t0 := t0) q tq hs vs k m hv hq hl e
  rwa [← m_key h1 (m_key h2 (m_key h3 (m_key h4 rfl)))] at this
inductive SdE (H : Addr) (x : Int) (t1 : Tok) (r : List Int) : (Str → Option Value) → List (Addr × Obj) → Prop
  | mk (q : Nat) (tq : Tok) (hs : List Int) (vs : List Value) (k : Nat) (mm : Str → Option Value) (hv : IntsAre vs hs) (hq : q < hs.length) (hl : hs.length ≤ 4) (e : hs.set q x = r) :
    SdE H x t1 r (fun y => if y = Str.ofString "pos" then some (.int (q : Int) tq) else if y = Str.ofString "heap" then some (.ref H) else if y = Str.ofString "newitem" then some (.int x t1) else mm y) [(H, W.listOf vs.toArray k)]
theorem SdE.of {H : Addr} {x : Int} {t1 : Tok} {r : List Int} {q : Nat} {tq : Tok} {hs : List Int} {vs : List Value} {k : Nat} {m : Str → Option Value} (hv : IntsAre vs hs) (hq : q < hs.length) (hl : hs.length ≤ 4) (e : hs.set q x = r)
    (h1 : m (Str.ofString "pos") = some (.int (q : Int) tq)) (h2 : m (Str.ofString "heap") = some (.ref H)) (h3 : m (Str.ofString "newitem") = some (.int x t1)) : SdE H x t1 r m [(H, W.listOf vs.toArray k)] := by
  have := SdE.mk (H := H) (t1 := t1) q tq hs vs k m hv hq hl e
  rwa [← m_key h1 (m_key h2 (m_key h3 rfl))] at this
noncomputable def suN (hs : List Int) (p : Nat) : List Int × Nat :=
  if 2 * p + 1 < hs.length then
    (let c := if 2 * p + 2 < hs.length ∧ ¬ hs.getD (2 * p + 1) 0 < hs.getD (2 * p + 2) 0 then 2 * p + 2 else 2 * p + 1
     suN (hs.set p (hs.getD c 0)) c)
  else (hs, p)
termination_by hs.length - p
decreasing_by
  rw [List.length_set]
  have hp : p < 2 * p + 1 := Nat.lt_succ_of_le (Nat.le_mul_of_pos_left p (by decide))
  refine Nat.sub_lt_sub_left (Nat.lt_trans hp ‹2 * p + 1 < hs.length›) ?_
  split
  · exact Nat.lt_succ_of_lt hp
  · exact hp
noncomputable def suE (hs : List Int) (p : Nat) (x : Int) : List Int := sdN ((suN hs p).1.set (suN hs p).2 x) (suN hs p).2 (((suN hs p).1.set (suN hs p).2 x).getD (suN hs p).2 0)
theorem suE_a {hs : List Int} {q : Nat} {x : Int} (h : 2 * q + 1 < hs.length) (h2 : ¬ (2 * q + 2 < hs.length ∧ ¬ hs.getD (2 * q + 1) 0 < hs.getD (2 * q + 2) 0)) : suE hs q x = suE (hs.set q (hs.getD (2 * q + 1) 0)) (2 * q + 1) x := by
  rw [suE, suN, if_pos h]
  dsimp only
  rw [if_neg h2, suE]
theorem suE_b {hs : List Int} {q : Nat} {x : Int} (h : 2 * q + 2 < hs.length) (h2 : ¬ hs.getD (2 * q + 1) 0 < hs.getD (2 * q + 2) 0) : suE hs q x = suE (hs.set q (hs.getD (2 * q + 2) 0)) (2 * q + 2) x := by
  rw [suE, suN, if_pos (Nat.lt_of_succ_lt h)]
  dsimp only
  rw [if_pos ⟨h, h2⟩, suE]
theorem suE_e {hs : List Int} {q : Nat} {x : Int} (h : ¬ 2 * q + 1 < hs.length) : suE hs q x = sdN (hs.set q x) q ((hs.set q x).getD q 0) := by
  rw [suE, suN, if_neg h]
theorem sdN_0 {hs : List Int} {x : Int} : sdN hs 0 x = hs.set 0 x := by rw [sdN, if_pos rfl]
theorem sdN_1 {hs : List Int} {x : Int} : sdN hs 1 x = if x < hs.getD 0 0 then (hs.set 1 (hs.getD 0 0)).set 0 x else hs.set 1 x := by
  rw [sdN, if_neg (by decide)]
  show (if x < hs.getD 0 0 then sdN (hs.set 1 (hs.getD 0 0)) 0 x else _) = _
  rw [sdN_0]
theorem sdN_2 {hs : List Int} {x : Int} : sdN hs 2 x = if x < hs.getD 0 0 then (hs.set 2 (hs.getD 0 0)).set 0 x else hs.set 2 x := by
  rw [sdN, if_neg (by decide)]
  show (if x < hs.getD 0 0 then sdN (hs.set 2 (hs.getD 0 0)) 0 x else _) = _
  rw [sdN_0]
theorem sdN_3 {hs : List Int} {x : Int} : sdN hs 3 x = if x < hs.getD 1 0 then sdN (hs.set 3 (hs.getD 1 0)) 1 x else hs.set 3 x := by
  rw [sdN, if_neg (by decide)]
theorem push_sd {q : List Int} {x : Int} (h : q.length ≤ 3) : sdN (q ++ [x]) q.length ((q ++ [x]).getD q.length 0) = pushH q x := by
  match q, h with
  | [], _ => exact sdN_0
  | [a], _ => exact sdN_1
  | [a, b], _ => exact sdN_2
  | [a, b, c], _ =>
    refine sdN_3.trans ?_
    rw [sdN_1]
    rfl
theorem pop_su {q : List Int} {a x : Int} (h : q.length ≤ 2) : popH (a :: q ++ [x]) = (a, suE (x :: q) 0 x) := by
  match q, h with
  | [], _ => rw [suE_e (show ¬ 1 < 1 by decide)]; exact congrArg (Prod.mk a) (Eq.symm sdN_0)
  | [b], _ =>
    rw [suE_a (hs := [x, b]) (q := 0) (show 1 < 2 by decide) (fun h => absurd h.1 (show ¬ 2 < 2 by decide)), suE_e (show ¬ 3 < 2 by decide)]
    exact congrArg (Prod.mk a) (Eq.symm sdN_1)
  | [b, c], _ =>
    by_cases hb : b < c
    · rw [suE_a (hs := [x, b, c]) (q := 0) (show 1 < 3 by decide) (fun h => h.2 hb), suE_e (show ¬ 3 < 3 by decide)]
      refine congrArg (Prod.mk a) (Eq.trans ?_ (Eq.symm sdN_1))
      exact if_pos hb
    · rw [suE_b (hs := [x, b, c]) (q := 0) (show 2 < 3 by decide) hb, suE_e (show ¬ 5 < 3 by decide)]
      refine congrArg (Prod.mk a) (Eq.trans ?_ (Eq.symm sdN_2))
      exact if_neg hb
inductive SuJ (H : Addr) (x : Int) (t1 t0 te : Tok) (ln : Nat) (r : List Int) : Nat → (Str → Option Value) → List (Addr × Obj) → Prop
  | mk (q : Nat) (tq tc : Tok) (hs : List Int) (vs : List Value) (k : Nat) (mm : Str → Option Value) (hv : IntsAre vs hs) (hq : q < hs.length) (hl : hs.length = ln) (e : suE hs q x = r) :
    SuJ H x t1 t0 te ln r (ln - q) (fun y => if y = Str.ofString "pos" then some (.int (q : Int) tq) else if y = Str.ofString "heap" then some (.ref H) else if y = Str.ofString "newitem" then some (.int x t1) else if y = Str.ofString "startpos" then some (.int 0 t0) else if y = Str.ofString "endpos" then some (.int (ln : Int) te) else if y = Str.ofString "childpos" then some (.int (2 * (q : Int) + 1) tc) else mm y) [(H, W.listOf vs.toArray k)]
theorem SuJ.of {H : Addr} {x : Int} {t1 t0 te : Tok} {ln : Nat} {r : List Int} {n q : Nat} {tq tc : Tok} {hs : List Int} {vs : List Value} {k : Nat} {m : Str → Option Value} (hv : IntsAre vs hs) (hq : q < hs.length) (hl : hs.length = ln) (e : suE hs q x = r) {z z2 : Int}
    (h1 : m (Str.ofString "pos") = some (.int z tq)) (hz : z = (q : Int)) (h2 : m (Str.ofString "heap") = some (.ref H)) (h3 : m (Str.ofString "newitem") = some (.int x t1)) (h4 : m (Str.ofString "startpos") = some (.int 0 t0)) (h5 : m (Str.ofString "endpos") = some (.int (ln : Int) te)) (h6 : m (Str.ofString "childpos") = some (.int z2 tc)) (hz2 : z2 = 2 * (q : Int) + 1) (hn : n = ln - q) : SuJ H x t1 t0 te ln r n m [(H, W.listOf vs.toArray k)] := by
  subst hz hz2 hn
  have := SuJ.mk (H := H) (t1 := t1) (t0 := t0) (te := te) q tq tc hs vs k m hv hq hl e
  rwa [← m_key h1 (m_key h2 (m_key h3 (m_key h4 (m_key h5 (m_key h6 rfl)))))] at this
theorem half_of (n : Nat) (h : 0 < (n : Int)) : ((n : Int) - 1).fdiv (2 ^ Int.toNat 1) = (((n - 1) / 2 : Nat) : Int) := by
  cases n with
  | zero => exact absurd h (by decide)
  | succ m =>
    rw [show ((m + 1 : Nat) : Int) - 1 = (m : Int) from Int.add_sub_cancel (m : Int) 1]
    exact (Int.ofNat_fdiv m 2).symm
theorem small_lt {n len : Nat} (h : n < len) (hl : len ≤ 4) : (n : Int) < 2 ^ 63 := by omega
theorem zero_nat {n : Nat} (h : ¬ 0 < (n : Int)) : n = 0 := by omega
theorem c1 {q ln : Nat} (h : 2 * (q : Int) + 1 < (ln : Int)) : 2 * q + 1 < ln := by omega
theorem c2 {q ln : Nat} (h : 2 * (q : Int) + 1 + 1 < (ln : Int)) : 2 * q + 2 < ln := by omega
theorem c3 {q ln : Nat} (h : ¬ 2 * (q : Int) + 1 < (ln : Int)) : ¬ 2 * q + 1 < ln := by omega
theorem c4 {q ln : Nat} (h : ¬ 2 * (q : Int) + 1 + 1 < (ln : Int)) : ¬ 2 * q + 2 < ln := by omega
theorem c5 {q c ln : Nat} (h : c < ln) (hq : q < c) : ln - c < ln - q := Nat.sub_lt_sub_left (Nat.lt_trans hq h) hq
theorem c6 (q : Nat) : q < 2 * q + 1 := Nat.lt_succ_of_le (Nat.le_mul_of_pos_left q (by decide))
theorem pos_nat {n : Nat} (h : 0 < (n : Int)) : 0 < n := by omega
theorem half_lt {n : Nat} (h : 0 < (n : Int)) : (n - 1) / 2 < n := Nat.lt_of_le_of_lt (Nat.div_le_self _ _) (Nat.sub_lt (pos_nat h) Nat.one_pos)
section
variable {w : World} {A : Around} {g : Heap} {L : Addr} {m : Str → Option Value} {s : Shared} {E : Value → Shared → Prop} {Q : Unit → Shared → Prop}
theorem set_sym {H : Addr} {vs : List Value} {n : Nat} {k : Int} {t : Tok} {v : Value} {news : List (Addr × Obj)} (F : Fr g L s.heap m) (N : News g L s.heap ((H, W.listOf vs.toArray n) :: news)) (hne : ∀ q ∈ news, q.1 ≠ H) (h0 : 0 ≤ k) (hfit : k < 2 ^ 63) (hn : k.toNat < vs.length)
    (hQ : ∀ h', Fr g L h' m → News g L h' ((H, W.listOf (vs.set k.toNat v).toArray n) :: news) → Q () { s with heap := h' }) :
    wpAny (MG w) A (setItem (.ref H) (.int k t) v) Q E s := by
  refine ki_setAt (N _ (.head _)).1 h0 hfit (by rw [List.size_toArray]; omega) (hQ _ (F.change (Heap.SameBut.update ..) (N _ (.head _)).2.1 (N _ (.head _)).2.2) ?_)
  exact ki_turn (pre := []) (its' := (vs.set k.toNat v).toArray) (n' := n) (·.setIfInBounds k.toNat v) N (fun _ h => nomatch h) hne (by rw [List.setIfInBounds_toArray]) (if_pos (by simp))
end
section
variable {w : World} {A A₀ : Around} {base g : Heap} {outer : List Env} {L : Addr} {m : Str → Option Value} {s : Shared} {news : List (Addr × Obj)} {env : Env} {test : PySem.Expr} {body orelse : List Stmt} {pos : Pos} {E : Value → Shared → Prop} {Q : Flow → Shared → Prop}
theorem while_C (J : Nat → (Str → Option Value) → List (Addr × Obj) → Prop) {n : Nat} (B : Below A₀ base outer g) (F : Fr g L s.heap m) (N : News g L s.heap news) (j0 : J n m news)
    (turn : ∀ (Qn Qo : Flow → Shared → Prop) n g' m' led h tk, J n m' led → Slid (fra outer) g g' → Below A₀ base outer g' → Fr g' L h m' → News g' L h led →
      (∀ s₃, Goes outer g' L s (fun m'' l => ∃ n', n' < n ∧ J n' m'' l) s₃ → Qn .next s₃ ∧ Qn .cont s₃) → (∀ s₃, Q .next s₃ → Qn .brk s₃) → (∀ f s₃, Q f s₃ → Qo f s₃) →
      wpAny (MG w) A (isTrue test env (eval test env)) (fun b s₂ => if b = true then wpAny (MG w) A (execs body env) Qn (fun _ _ => False) s₂
        else wpAny (MG w) A (execs orelse env) Qo (fun _ _ => False) s₂) (fun _ _ => False) { s with heap := h, toks := tk }) :
    Here (wpAny (MG w) A (exec (.While test body orelse pos) env) Q E s) :=
  while_G J B F N j0 fun n g' m' led h tk hj S B' F' N' => turn (fun f s₃ => match f with
          | .next | .cont => Goes outer g' L s (fun m'' l => ∃ n', n' < n ∧ J n' m'' l) s₃
          | .brk => Q .next s₃
          | .ret v => Q (.ret v) s₃) Q n g' m' led h tk hj S B' F' N' (fun _ h => ⟨h, h⟩) (fun _ h => h) fun _ _ h => h
end
theorem ints_last {vs : List Value} {ns : List Int} (h : IntsAre vs ns) : 1 ≤ ns.length → ∃ vs' ns' y t, vs = vs' ++ [.int y t] ∧ ns = ns' ++ [y] ∧ IntsAre vs' ns' := by
  induction h with
  | nil => intro h; exact absurd h (by decide)
  | cons n t r ih =>
    intro _
    cases r with
    | nil => exact ⟨[], [], n, t, rfl, rfl, .nil⟩
    | cons m u r' =>
      obtain ⟨vs', ns', y, t', e1, e2, h⟩ := ih (Nat.succ_le_succ (Nat.zero_le _))
      exact ⟨_ :: vs', n :: ns', y, t', by rw [e1]; rfl, by rw [e2]; rfl, .cons n t h⟩
section
variable {w : World} {base : Heap} {p : Program} {loose : List Str} {mean : ExcName → Option Value} {mg mb : Str → Option Value}
theorem sd_con (X : (k0.heap_1 w.params).In base) (T : Top p loose mean mg mb base) (H : Addr) (n : Nat) (vs : List Value) (hs : List Int) (hv : IntsAre vs hs) (q : Nat) (z : Int) (hz : z = (q : Int)) (tq t0 : Tok) (hq : q < hs.length) (hl : hs.length ≤ 4) :
    Con w base 162 [.ref H, .int 0 t0, .int z tq] 2 [(H, W.listOf vs.toArray n)] (fun v l => v = .none ∧ ∃ vs k, l = [(H, W.listOf (List.toArray vs) k)] ∧ IntsAre vs (sdN hs q (hs.getD q 0))) (fun _ _ => False) := by
  subst hz
  k_with_none
  k_with "exec While Compare cons nil" => refine here ?_
  k_with "setItem ref int" => refine here ?_
  k_with "subscriptTail Name Name ref int" => (k_dflt (refine' sub_int ?N ?m ?h0 ?h1 ?hx ?_ ?hs; (case N => k_asm); (case m => k_mem); (case h0 => exact Int.natCast_nonneg _); (case h1 => exact small_lt hq hl); (case hx => exact e2); (case hs => with_unfolding_all rfl); k_whole))
  refine' Con.of (binds := [(Str.ofString "heap", .ref H), (Str.ofString "startpos", .int 0 t0), (Str.ofString "pos", .int (q : Int) tq)]) X T ?ho ?hcd ?hb ?hl ?h ?c2 ?c3 ?c4 ?c5
  k_dflt ((case ho => k_is); (case hcd => k_is); (case hb => exact fun _ => BindsTo.of_eq rfl); (case hl => exact locs rfl); (case c2 => exact rfl); (case c3 => exact rfl); (case c4 => exact rfl); (case c5 => decide))
  intro dp envs gd un s g L h₁ tk hdp hun B Xg Tg F N hlt
  try k_fold
  refine hide1 fun Q1 hQ1 => ?_
  obtain ⟨t1, e1⟩ := ints_getp hv hq
  have e2 : vs.toArray[((q : Nat) : Int).toNat]? = some (.int (hs.getD q 0) t1) := e1
  refine seq_cut2 (Goes envs g L s (SdE H (hs.getD q 0) t1 (sdN hs q (hs.getD q 0)))) ?_ ?_
  · k_steps
    rename_i h2 F2 N2
    refine while_C (L := L) (n := q) (SdJ H (hs.getD q 0) t1 t0 (sdN hs q (hs.getD q 0))) B F2 N2 (.of hv hq hl rfl rfl rfl rfl rfl rfl) ?_
    generalize sdN hs q (hs.getD q 0) = r
    generalize hs.getD q 0 = x
    clear e1 e2 hv hq hl F2 N2
    intro Qn Qo n1 g1 m1 led h3 tk3 hJ S1 B1 F1 N1 hQn hQb hQo
    refine hideG fun G0 k0 => ?_; obtain ⟨tq1, hs1, vs1, k1, mm1, hv1, hq1, hl1, e3⟩ := hJ; refine k0 ?_; clear k0 G0
    clear Xg Tg
    have Xg := X.keeps B1.stays
    have Tg := T.keeps B1.stays
    have fin : hs1.set n1 x = r → ∀ (tk' : Nat) h' m', Fr g1 L h' m' → News g1 L h' [(H, W.listOf vs1.toArray k1)] → m' (Str.ofString "pos") = some (.int (n1 : Int) tq1) → m' (Str.ofString "heap") = some (.ref H) → m' (Str.ofString "newitem") = some (.int x t1) → Goes envs g L s (SdE H x t1 r) { s with heap := h', toks := tk' } :=
      fun e tk' h' m' F N h1 h2 h3 => ⟨g1, m', _, h', tk', rfl, S1, F, N, .of hv1 hq1 hl1 e h1 h2 h3⟩
    have hf := half_of n1
    rw [sdN] at e3
    k_steps
    · rename_i F5 N5 hlt'
      have hp : 0 < (n1 : Int) := by assumption
      refine here (set_sym F5 N5 (fun _ h => nomatch h) (Int.natCast_nonneg _) (small_lt hq1 hl1) (by rw [hv1.length]; exact hq1) fun h6 F6 N6 => ?_)
      have hg : (((n1 : Int) - 1).fdiv (2 ^ Int.toNat 1)).toNat = (n1 - 1) / 2 := by rw [hf hp]; rfl
      clear F5 N5
      k_steps
      rename_i h7 F7 N7
      refine (hQn _ ?_).2
      refine ⟨g1, _, _, h7, _, rfl, Slid.refl .., F7, N7, (n1 - 1) / 2, half_lt hp, .of (ints_set hv1 n1 _ _) (by rw [List.length_set]; exact Nat.lt_trans (half_lt hp) hq1) (by rw [List.length_set]; exact hl1) ?_ rfl (hf hp) rfl rfl rfl⟩
      rw [hg]
      rw [hg] at hlt'
      rw [← e3, if_neg (Nat.ne_of_gt (pos_nat hp)), if_pos hlt']
    · rename_i F5 N5 hlt'
      have hp : 0 < (n1 : Int) := by assumption
      have hg : (((n1 : Int) - 1).fdiv (2 ^ Int.toNat 1)).toNat = (n1 - 1) / 2 := by rw [hf hp]; rfl
      refine hQb _ ⟨rfl, fin ?_ _ _ _ F5 N5 rfl rfl rfl⟩
      rw [hg] at hlt'
      rw [← e3, if_neg (Nat.ne_of_gt (pos_nat hp)), if_neg hlt']
    · have hp : n1 = 0 := zero_nat (by assumption)
      exact hQo _ _ ⟨rfl, fin (by rw [← e3, if_pos hp]) _ _ _ F1 N1 rfl rfl rfl⟩
  · intro s' hP; refine hideG fun G0 k0 => ?_; obtain ⟨g1, m1, led, h2, tk2, rfl, S1, F1, N1, ⟨q1, tq1, hs1, vs1, k1, mm1, hv1, hq1, hl1, e3⟩⟩ := hP; refine k0 ?_; clear k0 G0
    have B1 := below_slid B S1
    clear F N Xg Tg
    have Xg := X.keeps B1.stays
    have Tg := T.keeps B1.stays
    k_steps
    refine here (set_sym F1 N1 (fun _ h => nomatch h) (Int.natCast_nonneg _) (small_lt hq1 hl1) (by rw [hv1.length]; exact hq1) fun h6 F6 N6 => ?_)
    clear F1 N1
    k_steps
    refine hQ1 _ _ ?_
    exact ⟨g1, _, _, h6, _, rfl, S1, F6, N6, rfl, _, _, rfl, e3 ▸ ints_set hv1 q1 _ _⟩
theorem su_con (X : (k0.heap_1 w.params).In base) (T : Top p loose mean mg mb base) (H : Addr) (n : Nat) (vs : List Value) (hs : List Int) (hv : IntsAre vs hs) (t0 : Tok) (hq : 0 < hs.length) (hl : hs.length ≤ 4) :
    Con w base 169 [.ref H, .int 0 t0] 3 [(H, W.listOf vs.toArray n)] (fun v l => v = .none ∧ ∃ vs k, l = [(H, W.listOf (List.toArray vs) k)] ∧ IntsAre vs (suE hs 0 (hs.getD 0 0))) (fun _ _ => False) := by
  k_with_none
  k_with "exec While Compare cons nil" => refine here ?_
  k_with "setItem ref int" => refine here ?_
  k_with "call builtin:len" => refine here ?_
  k_with "call ref" => refine here ?_
  refine' Con.of (binds := [(Str.ofString "heap", .ref H), (Str.ofString "pos", .int 0 t0)]) X T ?ho ?hcd ?hb ?hl ?h ?c2 ?c3 ?c4 ?c5
  k_dflt ((case ho => k_is); (case hcd => k_is); (case hb => exact fun _ => BindsTo.of_eq rfl); (case hl => exact locs rfl); (case c2 => exact rfl); (case c3 => exact rfl); (case c4 => exact rfl); (case c5 => decide))
  intro dp envs gd un s g L h₁ tk hdp hun B Xg Tg F N hlt
  try k_fold
  refine hide1 fun Q1 hQ1 => ?_
  k_steps
  refine here (PyProof.Rows.len_list (listAt (vs := vs) (k := n) N (by k_mem)) (by rw [List.size_toArray, hv.length]; omega) ?_)
  k_steps
  rename_i h2 F2 N2
  have hln : hs.length = vs.toArray.size := by rw [List.size_toArray, hv.length]
  refine while_C (L := L) (n := vs.toArray.size - 0) (SuJ H (hs.getD 0 0) _ t0 _ vs.toArray.size (suE hs 0 (hs.getD 0 0))) B F2 N2 (.of hv hq hln rfl rfl rfl rfl rfl rfl rfl rfl rfl rfl) ?_
  generalize vs.toArray.size = ln at *
  generalize hx0 : hs.getD 0 0 = x at *
  generalize hr : suE hs 0 x = r at *
  have hln4 : ln ≤ 4 := by omega
  clear hv hq hl F2 N2 hln
  intro Qn Qo n1 g1 m1 led h3 tk3 hJ S1 B1 F1 N1 hQn hQb hQo
  refine hideG fun G0 k0 => ?_; obtain ⟨q1, tq1, tc1, hs1, vs1, k1, mm1, hv1, hq1, hl1, e3⟩ := hJ; refine k0 ?_; clear k0 G0
  clear Xg Tg
  have Xg := X.keeps B1.stays
  have Tg := T.keeps B1.stays
  have z1 : (2 * (q1 : Int) + 1).toNat = 2 * q1 + 1 := rfl
  have z2 : (2 * (q1 : Int) + 1 + 1).toNat = 2 * q1 + 2 := rfl
  have hl4 : hs1.length ≤ 4 := hl1 ▸ hln4
  k_steps
  · refine here (set_sym (news := []) (by assumption) (by assumption) (fun _ h => nomatch h) (Int.natCast_nonneg _) (small_lt hq1 hl4) (by rw [hv1.length]; exact hq1) fun h6 F6 N6 => ?_)
    k_steps
    rename_i h7 F7 N7
    refine (hQn _ ?_).1
    have hc := c1 (by assumption : 2 * (q1 : Int) + 1 < (ln : Int))
    exact ⟨g1, _, _, h7, _, rfl, Slid.refl .., F7, N7, ln - (2 * q1 + 1), c5 hc (c6 q1), .of (q := 2 * q1 + 1) (ints_set hv1 q1 _ _) (by rw [List.length_set, hl1]; exact hc) (by rw [List.length_set]; exact hl1) (by rw [z1, ← e3]; refine (suE_a (hl1 ▸ hc) fun h => h.2 ?_).symm; rw [← z1, ← z2]; assumption) rfl rfl rfl rfl rfl rfl rfl rfl rfl⟩
  · refine here (set_sym (news := []) (by assumption) (by assumption) (fun _ h => nomatch h) (Int.natCast_nonneg _) (small_lt hq1 hl4) (by rw [hv1.length]; exact hq1) fun h6 F6 N6 => ?_)
    k_steps
    rename_i h7 F7 N7
    refine (hQn _ ?_).1
    have hc := c2 (by assumption : 2 * (q1 : Int) + 1 + 1 < (ln : Int))
    exact ⟨g1, _, _, h7, _, rfl, Slid.refl .., F7, N7, ln - (2 * q1 + 2), c5 hc (Nat.lt_succ_of_lt (c6 q1)), .of (q := 2 * q1 + 2) (ints_set hv1 q1 _ _) (by rw [List.length_set, hl1]; exact hc) (by rw [List.length_set]; exact hl1) (by rw [z2, ← e3]; refine (suE_b (hl1 ▸ hc) ?_).symm; rw [← z1, ← z2]; assumption) rfl rfl rfl rfl rfl rfl rfl rfl rfl⟩
  · refine here (set_sym (news := []) (by assumption) (by assumption) (fun _ h => nomatch h) (Int.natCast_nonneg _) (small_lt hq1 hl4) (by rw [hv1.length]; exact hq1) fun h6 F6 N6 => ?_)
    k_steps
    rename_i h7 F7 N7
    refine (hQn _ ?_).1
    have hc := c1 (by assumption : 2 * (q1 : Int) + 1 < (ln : Int))
    exact ⟨g1, _, _, h7, _, rfl, Slid.refl .., F7, N7, ln - (2 * q1 + 1), c5 hc (c6 q1), .of (q := 2 * q1 + 1) (ints_set hv1 q1 _ _) (by rw [List.length_set, hl1]; exact hc) (by rw [List.length_set]; exact hl1) (by rw [z1, ← e3]; exact (suE_a (hl1 ▸ hc) fun h => c4 (by assumption) (hl1 ▸ h.1)).symm) rfl rfl rfl rfl rfl rfl rfl rfl rfl⟩
  · refine hQo _ _ ?_
    have hx : suE hs1 q1 x = sdN (hs1.set q1 x) q1 ((hs1.set q1 x).getD q1 0) := suE_e (hl1 ▸ c3 (by assumption))
    clear hQn hQb hQo Qn Qo
    k_steps
    refine here (set_sym F1 N1 (fun _ h => nomatch h) (Int.natCast_nonneg _) (small_lt hq1 hl4) (by rw [hv1.length]; exact hq1) fun h6 F6 N6 => ?_)
    clear F1 N1
    k_steps
    refine here ?_
    refine Con.useV (env := envOf (Str.ofString "_siftup") _ L 169 (.ref 168)) (rest := []) (sd_con X T H k1 _ _ (ints_set hv1 q1 x _) q1 _ rfl _ _ (by rw [List.length_set]; exact hq1) (by rw [List.length_set]; exact hl4)) B1 F6 N6 rfl rfl (dp_le (a := 3) hdp (by decide)) (un_le (a := 203) hun (by decide)) (fun q h => h) (fun q h => nomatch h) ?_ (fun _ _ _ _ _ h => h.elim)
    intro led g5 h5 tk5 hP S5 B5 F5 N5 ap5; refine hideG fun G0 k0 => ?_; obtain ⟨vs5, k5, rfl, hv5⟩ := hP; refine k0 ?_; clear k0 G0
    clear F6 N6 Xg Tg
    have Xg := X.keeps B5.stays
    have Tg := T.keeps B5.stays
    k_steps
    refine hQ1 _ _ ?_
    exact ⟨g5, _, _, h5, _, rfl, S1.trans S5, F5, N5, rfl, vs5, k5, rfl, by rw [hx0, hr, ← e3, hx]; exact hv5⟩
theorem push_any (X : (k0.heap_1 w.params).In base) (T : Top p loose mean mg mb base) (H : Addr) (n : Nat) {vs : List Value} {q : List Int} (hq : IntsAre vs q) (hl : q.length ≤ 3) (x : Int) (tx : Tok) :
    Con w base 148 [.ref H, .int x tx] 4 [(H, W.listOf vs.toArray n)] (fun v l => v = .none ∧ ∃ vs k, l = [(H, W.listOf (List.toArray vs) k)] ∧ IntsAre vs (pushH q x)) (fun _ _ => False) := by
  k_with_none
  k_with "call builtin:len" => refine here ?_
  k_with "call ref" => refine here ?_
  refine' Con.of (binds := [(Str.ofString "heap", .ref H), (Str.ofString "item", .int x tx)]) X T ?ho ?hcd ?hb ?hl ?h ?c2 ?c3 ?c4 ?c5
  k_dflt ((case ho => k_is); (case hcd => k_is); (case hb => exact fun _ => BindsTo.of_eq rfl); (case hl => exact locs rfl); (case c2 => exact rfl); (case c3 => exact rfl); (case c4 => exact rfl); (case c5 => decide))
  intro dp envs gd un s g L h₁ tk hdp hun B Xg Tg F N hlt
  try k_fold
  refine hide1 fun Q1 hQ1 => ?_
  have hv := hq.length
  k_steps
  rename_i h2 F2 N2
  rw [List.push_toArray] at N2
  refine here (PyProof.Rows.len_list (listAt (vs := vs ++ [.int x tx]) (k := n + 1) N2 (by k_mem)) (by rw [List.size_toArray, List.length_append, hv]; show ((q.length + 1 : Nat) : Int) < 2 ^ 63; omega) ?_)
  k_steps
  refine here ?_
  refine Con.useV (env := envOf (Str.ofString "heappush") _ L 148 (.ref 147)) (rest := []) (sd_con X T H (n + 1) _ _ (IntsAre.app hq (.cons x tx .nil)) q.length _ (by rw [List.size_toArray, List.length_append, hv]; show ((q.length + 1 : Nat) : Int) - 1 = _; omega) _ _ (by rw [List.length_append]; exact Nat.lt_succ_self _) (by rw [List.length_append]; exact Nat.succ_le_succ hl)) B F2 N2 rfl rfl (dp_le (a := 3) hdp (by decide)) (un_le (a := 203) hun (by decide)) (fun q h => h) (fun q h => nomatch h) ?_ (fun _ _ _ _ _ h => h.elim)
  intro led g5 h5 tk5 hP S5 B5 F5 N5 ap5; refine hideG fun G0 k0 => ?_; obtain ⟨vs5, k5, rfl, hv5⟩ := hP; refine k0 ?_; clear k0 G0
  clear F2 N2 Xg Tg
  have Xg := X.keeps B5.stays
  have Tg := T.keeps B5.stays
  k_steps
  refine hQ1 _ _ ?_
  exact ⟨g5, _, _, h5, _, rfl, S5, F5, N5, rfl, vs5, k5, rfl, push_sd hl ▸ hv5⟩
theorem pop_any (X : (k0.heap_1 w.params).In base) (T : Top p loose mean mg mb base) (H : Addr) (n : Nat) {vs : List Value} {q : List Int} (hq : IntsAre vs q) (h1 : 1 ≤ q.length) (hl : q.length ≤ 4) :
    Con w base 155 [.ref H] 5 [(H, W.listOf vs.toArray n)] (fun v l => (∃ t, v = .int (popH q).1 t) ∧ ∃ vs k, l = [(H, W.listOf (List.toArray vs) k)] ∧ IntsAre vs (popH q).2) (fun _ _ => False) := by
  k_with_none
  k_with "setItem ref int" => refine here ?_
  k_with "truthy ref" => refine here ?_
  k_with "call ref" => refine here ?_
  k_with "call builtin:list.pop" => refine here ?_
  refine' Con.of (binds := [(Str.ofString "heap", .ref H)]) X T ?ho ?hcd ?hb ?hl ?h ?c2 ?c3 ?c4 ?c5
  k_dflt ((case ho => k_is); (case hcd => k_is); (case hb => exact fun _ => BindsTo.of_eq rfl); (case hl => exact locs rfl); (case c2 => exact rfl); (case c3 => exact rfl); (case c4 => exact rfl); (case c5 => decide))
  intro dp envs gd un s g L h₁ tk hdp hun B Xg Tg F N hlt
  try k_fold
  refine hide1 fun Q1 hQ1 => ?_
  obtain ⟨vs', q', y, t, rfl, rfl, hv⟩ := ints_last hq h1
  clear hq h1
  rw [List.length_append] at hl
  have hz := hv.length
  have hl' : q'.length ≤ 3 := Nat.le_of_succ_le_succ hl
  k_steps
  refine here (kl_pop (p := vs') (y := .int y t) F N (by rw [List.toList_toArray]; exact kpa_last _ _) (.head fun _ h => nomatch h) (by rw [List.toList_toArray, List.length_append, hz]; exact Nat.le_trans hl (by decide)) fun h2 F2 N2 => ?_)
  clear F N
  cases hv with
  | nil =>
    k_steps
    refine here (wpAny_truthy_list (listAt (vs := []) (k := n + 1) (by assumption) (by k_mem)) (by decide) ?_)
    k_steps
    refine hQ1 _ _ ?_
    exact ⟨g, _, _, _, _, rfl, Slid.refl .., by assumption, by assumption, ⟨t, rfl⟩, [], _, rfl, .nil⟩
  | cons a ta hr =>
    rename_i vr qr
    k_steps
    refine here (wpAny_truthy_list (listAt (vs := .int a ta :: vr) (k := n + 1) (by assumption) (by k_mem)) (by rw [List.size_toArray, hz]; omega) ?_)
    rw [show (!(Value.int a ta :: vr).toArray.isEmpty) = true from rfl]
    k_steps
    refine here (set_sym (vs := .int a ta :: vr) (news := []) (by assumption) (by assumption) (fun _ h => nomatch h) (by decide) (by decide) (Nat.succ_pos _) fun h6 F6 N6 => ?_)
    k_steps
    refine here ?_
    refine Con.useV (env := envOf (Str.ofString "heappop") _ L 155 (.ref 154)) (rest := []) (su_con X T H (n + 1) (.int y t :: vr) (y :: qr) (.cons y t hr) _ (Nat.succ_pos _) (Nat.le_succ_of_le hl')) B F6 N6 rfl rfl (dp_le (a := 4) hdp (by decide)) (un_le (a := 303) hun (by decide)) (fun q h => h) (fun q h => nomatch h) ?_ (fun _ _ _ _ _ h => h.elim)
    intro led g5 h5 tk5 hP S5 B5 F5 N5 ap5; refine hideG fun G0 k0 => ?_; obtain ⟨vs5, k5, rfl, hv5⟩ := hP; refine k0 ?_; clear k0 G0
    clear F6 N6 Xg Tg
    have Xg := X.keeps B5.stays
    have Tg := T.keeps B5.stays
    have ep := pop_su (a := a) (x := y) (Nat.le_of_succ_le_succ hl')
    k_steps
    refine hQ1 _ _ ?_
    exact ⟨g5, _, _, _, _, rfl, S5, by assumption, by assumption, ⟨_, congrArg (Value.int · _) (congrArg Prod.fst ep).symm⟩, vs5, k5, rfl, by rw [ep]; exact hv5⟩
end
end Mine
end

section
open PySem PySem.Spec PySem.Calls PySem.W PyProof.Rows PyProof.Rows.LCg PySem.SeqAt
set_option Elab.async false
set_option maxRecDepth 100000
set_option maxHeartbeats 2000000
set_option linter.unusedVariables false
namespace Mine
section
variable {w : World} {base : Heap} {f : Addr} {vs : List Value} {d : Nat} {pre pre' rest : List (Addr × Obj)} {post post' : Value → List (Addr × Obj) → Prop}
theorem Con.frame (C : Con w base f vs d pre post (fun _ _ => False)) (hsub : ∀ q ∈ pre, q ∈ pre') (hrest : ∀ q ∈ rest, q ∈ pre' ∧ q.1 ∉ pre.map (·.1))
    (hp : ∀ v l1, post v l1 → ∃ l', (∀ q ∈ l', q ∈ l1 ++ rest) ∧ post' v l') : Con w base f vs d pre' post' (fun _ _ => False) := by
  intro dp envs gd un s Q E hd hu hb hff hent hfr hQ hE
  refine C dp envs gd un s Q E hd hu hb hff (fun q hq => hent q (hsub q hq)) (fun q hq => hfr q (hsub q hq)) (fun v l1 h' tk' hpost Cg I hl => ?_) (fun _ _ _ _ h => h.elim)
  refine hideG fun G0 k0 => ?_; obtain ⟨l', hl', hp'⟩ := hp v l1 hpost; refine k0 ?_; clear k0 G0
  refine hQ v l' h' tk' hp' ⟨fun b o e nf nx => Cg.same b o e nf fun hm => nx ?_, fun b o e hf nx => Cg.slid b o e hf fun hm => nx ?_⟩ (fun q hq => ?_) fun q hq => ?_
  · refine hideG fun G0 k0 => ?_; obtain ⟨r, hr, e'⟩ := List.mem_map.mp hm; refine k0 ?_; clear k0 G0
    exact List.mem_map.mpr ⟨r, hsub r hr, e'⟩
  · refine hideG fun G0 k0 => ?_; obtain ⟨r, hr, e'⟩ := List.mem_map.mp hm; refine k0 ?_; clear k0 G0
    exact List.mem_map.mpr ⟨r, hsub r hr, e'⟩
  · rcases List.mem_append.mp (hl' q hq) with hq | hq
    · exact I q hq
    · obtain ⟨h1, h2⟩ := hrest q hq
      exact ⟨Cg.same _ _ (hent q h1).1 (hfr q h1) h2, (hent q h1).2⟩
  · rcases List.mem_append.mp (hl' q hq) with hq | hq
    · rcases hl q hq with h | h
      · refine hideG fun G0 k0 => ?_; obtain ⟨r, hr, e'⟩ := List.mem_map.mp h; refine k0 ?_; clear k0 G0
        exact .inl (List.mem_map.mpr ⟨r, hsub r hr, e'⟩)
      · exact .inr h
    · exact .inl (List.mem_map_of_mem (hrest q hq).1)
end
section
variable {w : World} {base : Heap} {p : Program} {loose : List Str} {mean : ExcName → Option Value} {mg mb : Str → Option Value}
theorem active_S (X : (k0.heap_1 w.params).In base) (T : Top p loose mean mg mb base) (S : Addr) (st : Ps) (sl : List (Addr × Obj)) (hS : SorterAt w S st sl) :
    Con w base 106 [.ref S] 2 sl (fun v l => v = .bool (decide (st.f < st.p) || !st.ready.isEmpty) ∧ l = sl) (fun _ _ => False) := by
  refine hideG fun G0 k0 => ?_; obtain ⟨dS, N2, R, d, oN, rv, n, l, eq1, hS⟩ := hS; refine k0 ?_; clear k0 G0; subst eq1
  refine Con.frame (rest := (N2, oN) :: nled l) (active_con X T S dS N2 R d st.p st.f rv st.ready hS.ready hS.rlen n) (fun q hq => ?_) (fun q hq => ⟨?_, fun hm => ?_⟩) fun v l1 ⟨h1, h2⟩ => ⟨_, fun q hq => ?_, h1, rfl⟩
  · simp only [List.mem_cons, List.not_mem_nil, or_false] at hq
    rcases hq with rfl | rfl | rfl <;> simp
  · rcases List.mem_cons.mp hq with rfl | hq
    · simp
    · exact List.mem_append_right _ hq
  · have hap := hS.ap
    unfold Ap at hap
    simp only [List.cons_append, List.nil_append, List.nodup_cons, List.mem_cons, not_or] at hap
    refine hideG fun G0 k0 => ?_; obtain ⟨⟨a1, a2, a3, a4⟩, ⟨b2, b3, b4⟩, ⟨c3, c4⟩, d4, _⟩ := hap; refine k0 ?_; clear k0 G0
    simp only [List.map_cons, List.map_nil, List.mem_cons, List.not_mem_nil, or_false] at hm
    rcases List.mem_cons.mp hq with rfl | hq
    · rcases hm with e | e | e
      · exact a2 e.symm
      · exact b2 e.symm
      · exact c3 e
    · have hqm : q.1 ∈ (nled l).map (·.1) := List.mem_map_of_mem hq
      rcases hm with e | e | e
      · exact a4 (e ▸ hqm)
      · exact b4 (e ▸ hqm)
      · exact d4 (e ▸ hqm)
  · subst h2
    simp only [List.cons_append, List.nil_append, List.mem_cons, List.mem_append] at hq ⊢
    rcases hq with h | h | h | h | h <;> simp [h]
theorem refuse_any (X : (k0.heap_1 w.params).In base) (T : Top p loose mean mg mb base) (S : Addr) (st : Ps) (sl : List (Addr × Obj)) (hS : SorterAt w S st sl) (j : Int) (t : Tok) (hj : 0 ≤ j ∧ j ≤ 4) (h : j ∉ keysN st.ns ∨ 0 ≤ npOf st.ns j ∨ npOf st.ns j = -2) :
    Con w base 359 [.ref S, .int j t] 4 sl (fun r l => r = .bool true ∧ l = sl) (fun _ _ => False) := by
  refine hideG fun G0 k0 => ?_; obtain ⟨dS, N2, R, d, oN, rv, n, l, hsl, hS0⟩ := id hS; refine k0 ?_; clear k0 G0
  have m1 : (S, instObj 137 dS) ∈ sl := by rw [hsl]; simp
  have m2 : (dS, sdict d N2 (.ref R) st.p st.f) ∈ sl := by rw [hsl]; simp
  refine refused_con X T S dS N2 d (.ref R) st.p st.f (.int j t) sl m1 m2 ?_
  by_cases hk : j ∈ keysN st.ns
  · exact doneR_old X T S j t st sl hS hk hj.1 hj.2 (h.resolve_left (fun hn => hn hk))
  · exact doneR_new X T S j t st sl hS hk hj.1 hj.2
end
end Mine
end

section
open PySem PySem.Spec PySem.Calls PySem.W PyProof.Rows PyProof.Rows.LCg PySem.SeqAt
set_option Elab.async false
set_option maxRecDepth 100000
set_option maxHeartbeats 16000000
set_option linter.unusedVariables false
namespace Mine
structure OA (Qa Na Ba L Wa : Addr) (wl bl sl : List (Addr × Obj)) : Prop where
  fix : [Qa, Na, Ba, L + 1 + 1 + 1, L + 1 + 1, L + 1, Wa].Nodup
  off : ∀ q ∈ wl ++ (bl ++ sl), q.1 ∉ [Qa, Na, Ba]
  offS : ∀ q ∈ sl, q.1 ∉ [Qa, Na, Ba, L + 1 + 1 + 1, L + 1 + 1, L + 1, Wa] ∧ ∀ r ∈ wl ++ bl, q.1 ≠ r.1
noncomputable abbrev oneLed (Qa Na Ba L Wa : Addr) (o1 o2 o3 oW : Obj) (qv : List Value) (kq : Nat) (nv : List Value) (kn : Nat) (bv : List Value) (kb : Nat) (wl bl sl : List (Addr × Obj)) : List (Addr × Obj) :=
  (Qa, W.listOf qv.toArray kq) :: (Na, W.listOf nv.toArray kn) :: (Ba, W.listOf bv.toArray kb) :: (L + 1 + 1 + 1, o1) :: (L + 1 + 1, o2) :: (L + 1, o3) :: (Wa, oW) :: (wl ++ (bl ++ sl))
inductive AnsAt (v : Value) (l : List (Addr × Obj)) (nest : List Int) (barred : List (List Int)) : Prop
  | mk (Ta Na Ba : Addr) (nv : List Value) (kn : Nat) (bv : List Value) (kb : Nat) (e : v = .ref Ta) (m1 : (Ta, tupOf #[.ref Na, .ref Ba] 0) ∈ l) (m2 : (Na, W.listOf (List.toArray nv) kn) ∈ l) (h1 : IntsAre nv nest) (m3 : (Ba, W.listOf (List.toArray bv) kb) ∈ l) (h2 : NL l bv barred) : AnsAt v l nest barred
noncomputable abbrev oneRest (Qa Na Ba L Wa : Addr) (o1 o2 o3 oW : Obj) (qv : List Value) (kq : Nat) (nv : List Value) (kn : Nat) (bv : List Value) (kb : Nat) (wl bl : List (Addr × Obj)) : List (Addr × Obj) :=
  (Qa, W.listOf qv.toArray kq) :: (Na, W.listOf nv.toArray kn) :: (Ba, W.listOf bv.toArray kb) :: (L + 1 + 1 + 1, o1) :: (L + 1 + 1, o2) :: (L + 1, o3) :: (Wa, oW) :: (wl ++ bl)
section
variable {Qa Na Ba L Wa : Addr} {o1 o2 o3 oW : Obj} {qv nv bv : List Value} {kq kn kb : Nat} {wl bl sl sl' : List (Addr × Obj)} {q : Addr × Obj}
theorem mem_last {α : Type} {P A B S : List α} {q : α} : q ∈ P ++ (A ++ (B ++ S)) ↔ q ∈ S ∨ q ∈ P ++ (A ++ B) :=
  ⟨fun h => by
    rcases List.mem_append.mp h with h | h
    · exact .inr (List.mem_append_left _ h)
    rcases List.mem_append.mp h with h | h
    · exact .inr (List.mem_append_right _ (List.mem_append_left _ h))
    rcases List.mem_append.mp h with h | h
    · exact .inr (List.mem_append_right _ (List.mem_append_right _ h))
    · exact .inl h,
  fun h => by
    rcases h with h | h
    · exact List.mem_append_right _ (List.mem_append_right _ (List.mem_append_right _ h))
    rcases List.mem_append.mp h with h | h
    · exact List.mem_append_left _ h
    rcases List.mem_append.mp h with h | h
    · exact List.mem_append_right _ (List.mem_append_left _ h)
    · exact List.mem_append_right _ (List.mem_append_right _ (List.mem_append_left _ h))⟩
theorem oneLed_iff : q ∈ oneLed Qa Na Ba L Wa o1 o2 o3 oW qv kq nv kn bv kb wl bl sl ↔ q ∈ sl ∨ q ∈ oneRest Qa Na Ba L Wa o1 o2 o3 oW qv kq nv kn bv kb wl bl :=
  mem_last (P := [(Qa, W.listOf qv.toArray kq), (Na, W.listOf nv.toArray kn), (Ba, W.listOf bv.toArray kb), (L + 1 + 1 + 1, o1), (L + 1 + 1, o2), (L + 1, o3), (Wa, oW)])
theorem OA.rest (oa : OA Qa Na Ba L Wa wl bl sl) (hq : q ∈ oneRest Qa Na Ba L Wa o1 o2 o3 oW qv kq nv kn bv kb wl bl) : ∀ r ∈ sl, r.1 ≠ q.1 := fun r hr e => by
  obtain ⟨h1, h2⟩ := oa.offS r hr
  simp only [List.mem_cons, List.not_mem_nil, or_false, not_or] at h1
  refine hideG fun G0 k0 => ?_; obtain ⟨a1, a2, a3, a4, a5, a6, a7⟩ := h1; refine k0 ?_; clear k0 G0
  simp only [List.mem_cons] at hq
  rcases hq with rfl | rfl | rfl | rfl | rfl | rfl | rfl | hq
  · exact a1 e
  · exact a2 e
  · exact a3 e
  · exact a4 e
  · exact a5 e
  · exact a6 e
  · exact a7 e
  · exact h2 q hq e
theorem OA.off_map (oa : OA Qa Na Ba L Wa wl bl sl) (hq : q ∈ oneRest Qa Na Ba L Wa o1 o2 o3 oW qv kq nv kn bv kb wl bl) : q.1 ∉ sl.map (·.1) := fun hm => by
  refine hideG fun G0 k0 => ?_; obtain ⟨r, hr, e⟩ := List.mem_map.mp hm; refine k0 ?_; clear k0 G0
  exact oa.rest hq r hr e
theorem OA.set_sl (oa : OA Qa Na Ba L Wa wl bl sl) (h : ∀ p ∈ sl', ∀ q ∈ oneRest Qa Na Ba L Wa o1 o2 o3 oW qv kq nv kn bv kb wl bl, p.1 ≠ q.1) : OA Qa Na Ba L Wa wl bl sl' := by
  refine ⟨oa.fix, fun q hq => ?_, fun q hq => ⟨?_, fun r hr => h q hq r (by simp [List.mem_append.mp hr])⟩⟩
  · rcases List.mem_append.mp hq with hq | hq
    · exact oa.off q (List.mem_append_left _ hq)
    rcases List.mem_append.mp hq with hq | hq
    · exact oa.off q (List.mem_append_right _ (List.mem_append_left _ hq))
    · simp only [List.mem_cons, List.not_mem_nil, or_false, not_or]
      exact ⟨h q hq _ (.head _), h q hq _ (.tail _ (.head _)), h q hq _ (.tail _ (.tail _ (.head _)))⟩
  · simp only [List.mem_cons, List.not_mem_nil, or_false, not_or]
    exact ⟨h q hq _ (.head _), h q hq _ (.tail _ (.head _)), h q hq _ (.tail _ (.tail _ (.head _))), h q hq _ (.tail _ (.tail _ (.tail _ (.head _)))), h q hq _ (.tail _ (.tail _ (.tail _ (.tail _ (.head _))))),
      h q hq _ (.tail _ (.tail _ (.tail _ (.tail _ (.tail _ (.head _)))))), h q hq _ (.tail _ (.tail _ (.tail _ (.tail _ (.tail _ (.tail _ (.head _)))))))⟩
theorem OA.offQ {on ob : Obj} (oa : OA Qa Na Ba L Wa wl bl sl) : ∀ q ∈ (Na, on) :: (Ba, ob) :: (L + 1 + 1 + 1, o1) :: (L + 1 + 1, o2) :: (L + 1, o3) :: (Wa, oW) :: (wl ++ (bl ++ sl)), q.1 ≠ Qa := fun q hq => by
  have h := oa.fix
  simp only [List.nodup_cons, List.mem_cons, List.not_mem_nil, or_false, not_or] at h
  refine hideG fun G0 k0 => ?_; obtain ⟨⟨a1, a2, a3, a4, a5, a6⟩, _⟩ := h; refine k0 ?_; clear k0 G0
  simp only [List.mem_cons] at hq
  rcases hq with rfl | rfl | rfl | rfl | rfl | rfl | hq
  · exact Ne.symm a1
  · exact Ne.symm a2
  · exact Ne.symm a3
  · exact Ne.symm a4
  · exact Ne.symm a5
  · exact Ne.symm a6
  · have := oa.off q hq
    simp only [List.mem_cons, List.not_mem_nil, or_false, not_or] at this
    exact this.1
theorem OA.offN {oq ob : Obj} (oa : OA Qa Na Ba L Wa wl bl sl) : ∀ q ∈ (Qa, oq) :: (Ba, ob) :: (L + 1 + 1 + 1, o1) :: (L + 1 + 1, o2) :: (L + 1, o3) :: (Wa, oW) :: (wl ++ (bl ++ sl)), q.1 ≠ Na := fun q hq => by
  have h := oa.fix
  simp only [List.nodup_cons, List.mem_cons, List.not_mem_nil, or_false, not_or] at h
  refine hideG fun G0 k0 => ?_; obtain ⟨⟨a1, a2, a3, a4, a5, a6⟩, ⟨b2, b3, b4, b5, b6⟩, _⟩ := h; refine k0 ?_; clear k0 G0
  simp only [List.mem_cons] at hq
  rcases hq with rfl | rfl | rfl | rfl | rfl | rfl | hq
  · exact a1
  · exact Ne.symm b2
  · exact Ne.symm b3
  · exact Ne.symm b4
  · exact Ne.symm b5
  · exact Ne.symm b6
  · have := oa.off q hq
    simp only [List.mem_cons, List.not_mem_nil, or_false, not_or] at this
    exact this.2.1
theorem OA.offB {oq on : Obj} (oa : OA Qa Na Ba L Wa wl bl sl) : ∀ q ∈ (Qa, oq) :: (Na, on) :: (L + 1 + 1 + 1, o1) :: (L + 1 + 1, o2) :: (L + 1, o3) :: (Wa, oW) :: (wl ++ (bl ++ sl)), q.1 ≠ Ba := fun q hq => by
  have h := oa.fix
  simp only [List.nodup_cons, List.mem_cons, List.not_mem_nil, or_false, not_or] at h
  refine hideG fun G0 k0 => ?_; obtain ⟨⟨a1, a2, a3, a4, a5, a6⟩, ⟨b2, b3, b4, b5, b6⟩, ⟨c3, c4, c5, c6⟩, _⟩ := h; refine k0 ?_; clear k0 G0
  simp only [List.mem_cons] at hq
  rcases hq with rfl | rfl | rfl | rfl | rfl | rfl | hq
  · exact a2
  · exact b2
  · exact Ne.symm c3
  · exact Ne.symm c4
  · exact Ne.symm c5
  · exact Ne.symm c6
  · have := oa.off q hq
    simp only [List.mem_cons, List.not_mem_nil, or_false, not_or] at this
    exact this.2.2
theorem OA.add_bl {D : Addr} {oD : Obj} (oa : OA Qa Na Ba L Wa wl bl sl) (hD : ∀ q ∈ oneLed Qa Na Ba L Wa o1 o2 o3 oW qv kq nv kn bv kb wl bl sl, q.1 ≠ D) : OA Qa Na Ba L Wa wl ((D, oD) :: bl) sl := by
  refine ⟨oa.fix, fun q hq => ?_, fun q hq => ⟨(oa.offS q hq).1, fun r hr => ?_⟩⟩
  · have hq' : q = (D, oD) ∨ q ∈ wl ++ (bl ++ sl) := by
      simp only [List.cons_append, List.mem_append, List.mem_cons] at hq ⊢
      rcases hq with h | h | h | h <;> simp [h]
    rcases hq' with rfl | hq'
    · simp only [List.mem_cons, List.not_mem_nil, or_false, not_or]
      exact ⟨Ne.symm (hD _ (.head _)), Ne.symm (hD _ (.tail _ (.head _))), Ne.symm (hD _ (.tail _ (.tail _ (.head _))))⟩
    · exact oa.off q hq'
  · have hr' : r = (D, oD) ∨ r ∈ wl ++ bl := by
      simp only [List.mem_append, List.mem_cons] at hr ⊢
      rcases hr with h | h | h <;> simp [h]
    rcases hr' with rfl | hr'
    · exact hD q (oneLed_iff.mpr (.inl hq))
    · exact (oa.offS q hq).2 r hr'
end
theorem pushH_len (q : List Int) (x : Int) : (pushH q x).length = q.length + 1 := by
  unfold pushH
  split <;> (repeat (first | rfl | (split) | simp))
theorem push_fold (sg : Int) : ∀ (l : List Int) (q : List Int), (l.foldl (fun q k => pushH q (sg * k)) q).length = q.length + l.length
  | [], q => rfl
  | k :: l, q => by rw [List.foldl_cons, push_fold sg l, pushH_len, List.length_cons]; omega
inductive OneA (w : World) (ws : List (List Int)) (L Wa : Addr) (o1 o3 oW : Obj) (wl led : List (Addr × Obj)) : Prop
  | mk (S : Addr) (sl : List (Addr × Obj)) (o2' : Obj) (e : led = (L + 1 + 1 + 1, o1) :: (L + 1 + 1, o2') :: (L + 1, o3) :: (Wa, oW) :: (wl ++ sl)) (hS : SorterAt0 w S (initNs ws 4) sl) (hd : o2'.data = .cell (some (.ref S))) (ap : ∀ q ∈ sl, ∀ r ∈ (L + 1 + 1 + 1, o1) :: (L + 1 + 1, o2') :: (L + 1, o3) :: (Wa, oW) :: wl, q.1 ≠ r.1) : OneA w ws L Wa o1 o3 oW wl led
inductive OneB (L Wa : Addr) (o1 o2' o3 oW : Obj) (wl sl : List (Addr × Obj)) (m' : Str → Option Value) (led : List (Addr × Obj)) : Prop
  | mk (mm : Str → Option Value) (Ba D : Addr) (ys : List Value) (em : m' = fun y => if y = Str.ofString "barred" then some (.ref Ba) else mm y) (e : led = (Ba, PySem.W.listOf #[.ref D] 0) :: (D, lst ys) :: (L + 1 + 1 + 1, o1) :: (L + 1 + 1, o2') :: (L + 1, o3) :: (Wa, oW) :: (wl ++ sl)) (hy : IntsAre ys [0, 1, 2, 3, 4])
    (a1 : ∀ q ∈ (D, lst ys) :: (L + 1 + 1 + 1, o1) :: (L + 1 + 1, o2') :: (L + 1, o3) :: (Wa, oW) :: (wl ++ sl), q.1 ≠ Ba) (a2 : ∀ q ∈ (L + 1 + 1 + 1, o1) :: (L + 1 + 1, o2') :: (L + 1, o3) :: (Wa, oW) :: (wl ++ sl), q.1 ≠ D) : OneB L Wa o1 o2' o3 oW wl sl m' led
inductive OneC (w : World) (ws : List (List Int)) (S Ba D : Addr) (ys : List Value) (mm : Str → Option Value) (L Wa : Addr) (o1 o2' o3 oW : Obj) (wl : List (Addr × Obj)) (m' : Str → Option Value) (led : List (Addr × Obj)) : Prop
  | mk (em : m' = fun y => if y = Str.ofString "barred" then some (.ref Ba) else mm y) (sl : List (Addr × Obj)) (e : led = (Ba, PySem.W.listOf #[.ref D] 0) :: (D, lst ys) :: (L + 1 + 1 + 1, o1) :: (L + 1 + 1, o2') :: (L + 1, o3) :: (Wa, oW) :: (wl ++ sl)) (hS : SorterAt w S (prepPs (initNs ws 4)) sl)
    (ap : ∀ q ∈ sl, ∀ r ∈ (Ba, PySem.W.listOf #[.ref D] 0) :: (D, lst ys) :: (L + 1 + 1 + 1, o1) :: (L + 1 + 1, o2') :: (L + 1, o3) :: (Wa, oW) :: wl, q.1 ≠ r.1) : OneC w ws S Ba D ys mm L Wa o1 o2' o3 oW wl m' led
inductive OneJ (w : World) (ws : List (List Int)) (sg : Int) (S Qa Na Ba L Wa : Addr) (o1' o2' o3 oW : Obj) (wl : List (Addr × Obj)) (n : Nat) (m' : Str → Option Value) (led : List (Addr × Obj)) : Prop
  | mk (i : Nat) (mm : Str → Option Value) (qv : List Value) (kq : Nat) (nv : List Value) (kn : Nat) (bv : List Value) (kb : Nat) (bl sl : List (Addr × Obj)) (hi : n = 4 - i ∧ i ≤ 4) (em : m' = fun y => if y = Str.ofString "nest" then some (.ref Na) else if y = Str.ofString "barred" then some (.ref Ba) else mm y)
    (e : led = oneLed Qa Na Ba L Wa o1' o2' o3 oW qv kq nv kn bv kb wl bl sl) (oa : OA Qa Na Ba L Wa wl bl sl) (h1 : IntsAre qv (turnN ws sg i).2.1) (h2 : IntsAre nv (turnN ws sg i).2.2.1) (h3 : NL bl bv (turnN ws sg i).2.2.2) (h4 : SorterAt w S (turnN ws sg i).1 sl) : OneJ w ws sg S Qa Na Ba L Wa o1' o2' o3 oW wl n m' led
inductive OneF (sg : Int) (ks q0 : List Int) (Ta : Addr) (tv : List Value) (kt : Nat) (Qa Na Ba L Wa : Addr) (o1' o2' o3 oW : Obj) (nv : List Value) (kn : Nat) (bv : List Value) (kb : Nat) (wl bl l6 : List (Addr × Obj)) (j : Nat) (m' : Str → Option Value) (ld : List (Addr × Obj)) : Prop
  | mk (mm' : Str → Option Value) (qv' : List Value) (kq' : Nat) (em : m' = fun y => if y = Str.ofString "nest" then some (.ref Na) else if y = Str.ofString "barred" then some (.ref Ba) else mm' y) (e : ld = (Ta, tupOf tv.toArray kt) :: oneLed Qa Na Ba L Wa o1' o2' o3 oW qv' kq' nv kn bv kb wl bl l6) (h : IntsAre qv' ((ks.take j).foldl (fun q k => pushH q (sg * k)) q0)) : OneF sg ks q0 Ta tv kt Qa Na Ba L Wa o1' o2' o3 oW nv kn bv kb wl bl l6 j m' ld
section
variable {w : World} {base : Heap} {p : Program} {loose : List Str} {mean : ExcName → Option Value} {mg mb : Str → Option Value}
theorem one_con (X : (k0.heap_1 w.params).In base) (T : Top p loose mean mg mb base) (Wa : Addr) (oW : Obj) (kvs : List (Int × Value)) (wl : List (Addr × Obj)) (ws : List (List Int)) (hW : WaitsAt w oW kvs wl ws) (hlo : (Wa == sysModules) = false) (hws : ws.length = 4) (sg : Int) (tsg : Tok) (hsg : sg = 1 ∨ sg = -1) (hrun : runOk ws sg = true) :
    Con w base 364 [.ref Wa, .int sg tsg] 14 ((Wa, oW) :: wl) (fun v l => ∃ l', l = (Wa, oW) :: wl ++ l' ∧ AnsAt v l' (oneN ws sg).1 (oneN ws sg).2) (fun _ _ => False) := by
  k_with_none
  k_with "walk1" => first | (with_reducible refine Nx.next (by assumption) _ ?_; (try clear hN); (try clear Qc)) | (with_reducible refine Nx.ret (by assumption) ?_; (try clear hN); (try clear Qc)) | (with_reducible refine Nx.brk (by assumption) ?_; (try clear hN); (try clear Qc)) | (with_reducible refine Nx.cont (by assumption) ?_; (try clear hN); (try clear Qc))
  k_with "execs cons" => (refine execs_h fun Qc hN => ?_)
  k_with "sub1" => with_reducible (first | exact List.mem_cons_self | exact sub_refl | (refine List.mem_cons_of_mem _ ?_; walk_at "sub1") | (refine sub_tail ?_; walk_at "sub1") | (refine List.mem_append_left _ ?_; walk_at "sub1") | (refine List.mem_append_right _ ?_; walk_at "sub1") | (refine sub_left ?_; walk_at "sub1") | (refine sub_right ?_; walk_at "sub1") | assumption)
  k_with "sub" => with_reducible (first | exact sub_nil | (refine sub_cons ?_ ?_; (· walk_at "sub1"); walk_at "sub") | (refine sub_app ?_ ?_; (· walk_at "sub"); walk_at "sub") | walk_at "sub1")
  k_with "call ref" => refine here ?_
  k_with "eval ListComp" => refine here ?_
  k_with "exec While Call cons nil" => refine here ?_
  k_with "exec For Name Call cons nil" => refine here ?_
  k_with "k_all" => assumption
  k_with "k_ne" => omega
  k_with "k_ne" => first | assumption | (refine Ne.symm ?_; assumption)
  have hsg1 : -1 ≤ sg ∧ sg ≤ 1 := by rcases hsg with rfl | rfl <;> decide
  refine' Con.ofC (binds := [(Str.ofString "waits", .ref Wa), (Str.ofString "sign", .int sg tsg)]) X T ?ho ?hcd ?hb ?hl ?hn ?h ?c2 ?c3 ?c4
  k_dflt ((case ho => k_is); (case hcd => k_is); (case hb => exact fun _ => BindsTo.of_eq rfl); (case hl => exact rfl); (case hn => decide +kernel); (case c2 => exact rfl); (case c3 => exact rfl); (case c4 => exact rfl))
  intro dp envs gd un s g L h₁ tk cells hdp hun B Xg Tg F N Y hlt
  k_cells Y
  simp only [List.cons_append, List.nil_append] at N
  rename_i o1 o2 o3 d1 d2 d3
  try k_fold
  refine seq_cut (Goes envs g L s fun _ led => OneA w ws L Wa o1 o3 oW wl led) ?_ ?_
  · k_steps
    have hWL : @LT.lt Nat _ Wa L := hlt _ (.head _)
    refine here (mk_sorter (rest := [(L + 1 + 1 + 1, o1), (L + 1 + 1, o2), (L + 1, o3)]) X T hW hlo hws B F N (fun q hq => .tail _ (.tail _ (.tail _ hq))) (fun q hq => ?_) rfl rfl (by omega) (by omega) fun S sl g1 h1 tk1 S1 B1 F1 N1 hS hap => ?_)
    · have hq' : @LT.lt Nat _ L q.1 ∧ q ∈ (L + 1 + 1 + 1, o1) :: (L + 1 + 1, o2) :: (L + 1, o3) :: (Wa, oW) :: wl := by
        simp only [List.mem_cons, List.not_mem_nil, or_false] at hq ⊢
        rcases hq with rfl | rfl | rfl
        · exact ⟨Nat.lt_succ_of_lt (Nat.lt_succ_of_lt (Nat.lt_succ_self _)), .inl rfl⟩
        · exact ⟨Nat.lt_succ_of_lt (Nat.lt_succ_self _), .inr (.inl rfl)⟩
        · exact ⟨Nat.lt_succ_self _, .inr (.inr (.inl rfl))⟩
      refine ⟨hq'.2, fun hm => ?_⟩
      refine hideG fun G0 k0 => ?_; obtain ⟨r, hr, e⟩ := List.mem_map.mp hm; refine k0 ?_; clear k0 G0
      have := hlt r hr
      rw [e] at this
      exact Nat.lt_asymm hq'.1 this
    clear F N Xg Tg
    have Xg := X.keeps B1.stays
    have Tg := T.keeps B1.stays
    have N2 : News g1 L h1 ((L + 1 + 1 + 1, o1) :: (L + 1 + 1, o2) :: (L + 1, o3) :: (Wa, oW) :: (wl ++ sl)) := news_sub N1 (by walk_at "sub")
    have a1 : ∀ q ∈ wl ++ sl, q.1 ≠ L + 1 + 1 + 1 := fun q hq => by
      rcases List.mem_append.mp hq with hq | hq
      · exact Nat.ne_of_lt (Nat.lt_trans (hlt q (.tail _ hq)) (Nat.lt_succ_of_lt (Nat.lt_succ_of_lt (Nat.lt_succ_self _))))
      · exact hap q hq (L + 1 + 1 + 1, o1) (by walk_at "sub1")
    have a2 : ∀ q ∈ wl ++ sl, q.1 ≠ L + 1 + 1 := fun q hq => by
      rcases List.mem_append.mp hq with hq | hq
      · exact Nat.ne_of_lt (Nat.lt_trans (hlt q (.tail _ hq)) (Nat.lt_succ_of_lt (Nat.lt_succ_self _)))
      · exact hap q hq (L + 1 + 1, o2) (by walk_at "sub1")
    have a3 : ∀ q ∈ wl ++ sl, q.1 ≠ L + 1 := fun q hq => by
      rcases List.mem_append.mp hq with hq | hq
      · exact Nat.ne_of_lt (Nat.lt_trans (hlt q (.tail _ hq)) (Nat.lt_succ_self _))
      · exact hap q hq (L + 1, o3) (by walk_at "sub1")
    clear N1
    k_steps
    · trivial
    · rename_i h2 o2' F2 N2' d2'
      refine ⟨g1, _, _, h2, _, rfl, S1, F2, N2', S, sl, o2', rfl, hS, d2', fun q hq r hr => ?_⟩
      simp only [List.mem_cons] at hr
      rcases hr with rfl | rfl | rfl | rfl | hr
      · exact hap q hq (L + 1 + 1 + 1, o1) (by walk_at "sub1")
      · exact hap q hq (L + 1 + 1, o2) (by walk_at "sub1")
      · exact hap q hq (L + 1, o3) (by walk_at "sub1")
      · exact hap q hq (Wa, oW) (by walk_at "sub1")
      · exact hap q hq r (by walk_at "sub1")
  clear F N Xg Tg
  intro s' hP1; refine hideG fun G0 k0 => ?_; obtain ⟨g1, mA, led, h1, tk1, rfl, S1, F1, N1, S, sl, o2', rfl, hS, d2', hap⟩ := hP1; refine k0 ?_; clear k0 G0
  have B1 := below_slid B S1
  have Xg := X.keeps B1.stays
  have Tg := T.keeps B1.stays
  refine seq_cut (Goes envs g1 L s (OneB L Wa o1 o2' o3 oW wl sl)) ?_ ?_
  · k_steps
    refine ListComp_J (by with_unfolding_all rfl) (by rfl) (by decide) ?_ (fun _ => rfl)
    k_steps
    rename_i h3 tx3 t3 u3 v3 R3 F3 N3 k3
    clear k3
    refine hideG fun G0 k0 => ?_; obtain ⟨dS, N0, sd, oN, l, hsl, hS0⟩ := id hS; refine k0 ?_; clear k0 G0
    have m1 : (S, instObj 137 dS) ∈ sl := by rw [hsl]; exact .head _
    have m2 : (dS, sdict sd N0 .none 0 0) ∈ sl := by rw [hsl]; exact .tail _ (.head _)
    clear hsl hS0
    refine filt_pure (L := L) (fun _ => true) (source_range (n := 5) (by rfl) F3 N3 R3 (by decide) (by rfl)) (fun q hq => nomatch hq) (by decide) B1 ?_ ?_ (by decide) (by rfl) (by rfl) (by decide)
    · rintro hx I C D j v ys g4 oI oC m₂ h4 tk4 hj ⟨tj, rfl⟩ S4 B4 F4 hC hx2 N4 ne off
      clear F3 N3 R3 Xg Tg
      have Xg := X.keeps B4.stays
      have Tg := T.keeps B4.stays
      refine hideQ fun Q2 E2 hQ2 hE2 => ?_
      k_steps
      refine here ?_
      refine Con.useE (env := envOfC (Str.ofString "_law_one_by_one") _ L 364 (.ref 363)) (rest := (I, oI) :: (C, oC) :: (D, lst ys) :: (L + 1 + 1 + 1, o1) :: (L + 1 + 1, o2') :: (L + 1, o3) :: (Wa, oW) :: wl)
        (refused_con X T S dS N0 sd .none 0 0 (.int (0 + (j : Int)) tj) sl m1 m2 (doneR_unp X T S dS N0 sd 0 0 _ _ m1 m2)) B4 F4 N4 rfl rfl (dp_le (a := 5) hdp (by decide)) (un_le (a := 403) hun (by decide))
        ((by walk_at "sub")) (fun q hq => ⟨?_, fun hm => ?_⟩) ?_ (fun _ _ _ _ _ h => h.elim)
      · revert q; walk_at "sub"
      · refine hideG fun G0 k0 => ?_; obtain ⟨r, hr, e⟩ := List.mem_map.mp hm; refine k0 ?_; clear k0 G0
        have ho := off r (List.mem_cons_of_mem _ (List.mem_cons_of_mem _ (List.mem_cons_of_mem _ (List.mem_cons_of_mem _ (List.mem_append_right _ hr)))))
        have ha := hap r hr
        simp only [List.mem_cons] at hq
        rcases hq with rfl | rfl | rfl | rfl | rfl | rfl | rfl | hq
        · exact ho.1 e
        · exact ho.2.1 e
        · exact ho.2.2 e
        · exact ha (L + 1 + 1 + 1, o1) (by walk_at "sub1") e
        · exact ha (L + 1 + 1, o2') (by walk_at "sub1") e
        · exact ha (L + 1, o3) (by walk_at "sub1") e
        · exact ha (Wa, oW) (by walk_at "sub1") e
        · exact ha q (by walk_at "sub1") e
      · intro g5 h5 tk5 S5 B5 F5 N5 ap5
        clear N4 F4 Xg Tg
        have Xg := X.keeps B5.stays
        have Tg := T.keeps B5.stays
        k_steps
        refine hQ2 _ _ ⟨rfl, g5, _, h5, _, rfl, S5, F5, news_sub N5 fun q hq => ?_, off, rfl⟩
        revert q; walk_at "sub"
    · intro ys D g4 h4 tk4 hs4 S4 B4 F4 N4 off4
      clear F3 N3 R3 Xg Tg
      have Xg := X.keeps B4.stays
      have Tg := T.keeps B4.stays
      have hys : IntsAre ys [0, 1, 2, 3, 4] := (Sel.ints (f := fun j => 0 + (j : Int)) hs4)
      clear hs4
      k_steps
      · trivial
      · rename_i Ba h6 l6 h7 F7 N7
        exact ⟨g4, _, _, _, _, rfl, S4, F7, N7, mA, Ba, D, ys, rfl, rfl, hys, fun q hq => Nat.ne_of_lt (allLt_mem (l := (D, lst ys) :: (L + 1 + 1 + 1, o1) :: (L + 1 + 1, o2') :: (L + 1, o3) :: (Wa, oW) :: (wl ++ sl)) l6 q hq), off4⟩
  clear F1 N1 Xg Tg
  intro s' hP1; refine hideG fun G0 k0 => ?_; obtain ⟨g2, mB, led, h2, tk2, rfl, S2, F2, N2, mm, Ba, D, ys, rfl, rfl, hys, aB, aD⟩ := hP1; refine k0 ?_; clear k0 G0
  have B2 := below_slid B1 S2
  have Xg := X.keeps B2.stays
  have Tg := T.keeps B2.stays
  refine seq_cut (Goes envs g2 L s (OneC w ws S Ba D ys mm L Wa o1 o2' o3 oW wl)) ?_ ?_
  · refine hideG fun G0 k0 => ?_; obtain ⟨dS, N0, sd, oN, l, hsl, hS0⟩ := id hS; refine k0 ?_; clear k0 G0
    have N3 : News g2 L h2 ((S, instObj 137 dS) :: (dS, sdict sd N0 .none 0 0) :: (Ba, PySem.W.listOf #[.ref D] 0) :: (D, lst ys) :: (L + 1 + 1 + 1, o1) :: (L + 1 + 1, o2') :: (L + 1, o3) :: (Wa, oW) :: (wl ++ sl)) := fun q hq => by
      rcases List.mem_cons.mp hq with rfl | hq
      · exact N2 _ (by rw [hsl]; simp)
      rcases List.mem_cons.mp hq with rfl | hq
      · exact N2 _ (by rw [hsl]; simp)
      · exact N2 q hq
    clear hsl hS0 N2
    k_steps
    refine here ?_
    simp only [List.append_nil]
    refine Con.useV (env := envOfC (Str.ofString "_law_one_by_one") _ L 364 (.ref 363)) (rest := (Ba, PySem.W.listOf #[.ref D] 0) :: (D, lst ys) :: (L + 1 + 1 + 1, o1) :: (L + 1 + 1, o2') :: (L + 1, o3) :: (Wa, oW) :: wl)
      (prep_con X T S (initNs ws 4) sl hS (run_prep hrun).1 (run_prep hrun).2.1 100 (run_prep hrun).2.2) B2 F2 N3 rfl rfl (dp_le (a := 6) hdp (by decide)) (un_le (a := 503) hun (by decide))
      ((by walk_at "sub")) (fun q hq => ⟨?_, fun hm => ?_⟩) ?_ (fun _ _ _ _ _ h => h.elim)
    · revert q; walk_at "sub"
    · refine hideG fun G0 k0 => ?_; obtain ⟨r, hr, e⟩ := List.mem_map.mp hm; refine k0 ?_; clear k0 G0
      simp only [List.mem_cons] at hq
      rcases hq with rfl | rfl | rfl | rfl | rfl | rfl | hq
      · exact aB r (by walk_at "sub1") e
      · exact aD r (by walk_at "sub1") e
      · exact hap r hr (L + 1 + 1 + 1, o1) (by walk_at "sub1") e
      · exact hap r hr (L + 1 + 1, o2') (by walk_at "sub1") e
      · exact hap r hr (L + 1, o3) (by walk_at "sub1") e
      · exact hap r hr (Wa, oW) (by walk_at "sub1") e
      · exact hap r hr q (by walk_at "sub1") e
    · intro led g5 h5 tk5 hS5 S5 B5 F5 N5 ap5
      clear N3 F2 Xg Tg
      have Xg := X.keeps B5.stays
      have Tg := T.keeps B5.stays
      k_steps
      · trivial
      · refine ⟨g5, _, _, h5, _, rfl, S5, F5, news_sub N5 fun q hq => ?_, rfl, led, rfl, hS5, ap5⟩
        revert q; walk_at "sub"
  clear F2 N2 Xg Tg
  intro s' hP1; refine hideG fun G0 k0 => ?_; obtain ⟨g3, mC, led, h3, tk3, rfl, S3, F3, N3, rfl, sl3, rfl, hS3, ap3⟩ := hP1; refine k0 ?_; clear k0 G0
  have B3 := below_slid B2 S3
  have Xg := X.keeps B3.stays
  have Tg := T.keeps B3.stays
  clear hap hS
  have aL : ∀ q ∈ wl ++ sl3, q.1 ≠ L + 1 + 1 + 1 := fun q hq => by
    rcases List.mem_append.mp hq with hq | hq
    · exact Nat.ne_of_lt (Nat.lt_trans (hlt q (.tail _ hq)) (Nat.lt_succ_of_lt (Nat.lt_succ_of_lt (Nat.lt_succ_self _))))
    · exact ap3 q hq (L + 1 + 1 + 1, o1) (by walk_at "sub1")
  have hWL : @LT.lt Nat _ Wa L := hlt _ (.head _)
  have bL : @Ne Nat (L + 1 + 1 + 1) Ba := aB (L + 1 + 1 + 1, o1) (by walk_at "sub1")
  have dL : @Ne Nat (L + 1 + 1 + 1) D := aD (L + 1 + 1 + 1, o1) (by walk_at "sub1")
  k_steps
  rename_i Qa hq lq Na hn ln Dt ht lt x1 x2 o1' d1' h5 F5 N5
  have bad : ∀ q ∈ wl ++ sl3, q.1 ≠ Ba := fun q hq => by
    rcases List.mem_append.mp hq with hq | hq
    · exact aB q (by walk_at "sub1")
    · exact ap3 q hq (Ba, PySem.W.listOf #[.ref D] 0) (.head _)
  have oa : OA Qa Na Ba L Wa wl [(D, lst ys)] sl3 := by
    have lq' := allLt_mem (l := (Ba, PySem.W.listOf #[.ref D] 0) :: (D, lst ys) :: (L + 1 + 1 + 1, o1) :: (L + 1 + 1, o2') :: (L + 1, o3) :: (Wa, oW) :: (wl ++ sl3)) lq
    have ln' := allLt_mem (l := (Qa, PySem.W.listOf #[] 0) :: (Ba, PySem.W.listOf #[.ref D] 0) :: (D, lst ys) :: (L + 1 + 1 + 1, o1) :: (L + 1 + 1, o2') :: (L + 1, o3) :: (Wa, oW) :: (wl ++ sl3)) ln
    refine hideG fun G0 k0 => ?_; obtain ⟨q1, q2, q3, q4, q5, q6, _⟩ := lq; refine k0 ?_; clear k0 G0
    refine hideG fun G0 k0 => ?_; obtain ⟨n1, n2, n3, n4, n5, n6, n7, _⟩ := ln; refine k0 ?_; clear k0 G0
    have b2 : @Ne Nat (L + 1 + 1) Ba := aB (L + 1 + 1, o2') (by walk_at "sub1")
    have b3 : @Ne Nat (L + 1) Ba := aB (L + 1, o3) (by walk_at "sub1")
    have b4 : @Ne Nat Wa Ba := aB (Wa, oW) (by walk_at "sub1")
    have b5 : @Ne Nat D Ba := aB (D, lst ys) (by walk_at "sub1")
    refine ⟨?_, fun q hq => ?_, fun q hq => ⟨?_, fun r hr => ?_⟩⟩
    · simp only [List.nodup_cons, List.mem_cons, List.not_mem_nil, or_false, not_or, List.nodup_nil, and_true, not_false_eq_true]
      exact ⟨⟨Nat.ne_of_lt n1, Nat.ne_of_gt q1, Nat.ne_of_gt q3, Nat.ne_of_gt q4, Nat.ne_of_gt q5, Nat.ne_of_gt q6⟩, ⟨Nat.ne_of_gt n2, Nat.ne_of_gt n4, Nat.ne_of_gt n5, Nat.ne_of_gt n6, Nat.ne_of_gt n7⟩, ⟨Ne.symm bL, Ne.symm b2, Ne.symm b3, Ne.symm b4⟩, ⟨Nat.ne_of_gt (Nat.lt_succ_self _), Nat.ne_of_gt (Nat.lt_succ_of_lt (Nat.lt_succ_self _)), Nat.ne_of_gt (Nat.lt_succ_of_lt (Nat.lt_succ_of_lt (Nat.lt_succ_of_lt hWL)))⟩, ⟨Nat.ne_of_gt (Nat.lt_succ_self _), Nat.ne_of_gt (Nat.lt_succ_of_lt (Nat.lt_succ_of_lt hWL))⟩, Nat.ne_of_gt (Nat.lt_succ_of_lt hWL)⟩
    · have hq' : q = (D, lst ys) ∨ q ∈ wl ++ sl3 := by
        simp only [List.mem_append, List.mem_cons, List.not_mem_nil, or_false] at hq ⊢
        rcases hq with h | h | h <;> simp [h]
      simp only [List.mem_cons, List.not_mem_nil, or_false, not_or]
      rcases hq' with rfl | hq'
      · exact ⟨Nat.ne_of_lt (lq' _ (by walk_at "sub1")), Nat.ne_of_lt (ln' (D, lst ys) (by walk_at "sub1")), b5⟩
      · have e : q ∈ (Ba, PySem.W.listOf #[.ref D] 0) :: (D, lst ys) :: (L + 1 + 1 + 1, o1) :: (L + 1 + 1, o2') :: (L + 1, o3) :: (Wa, oW) :: (wl ++ sl3) := .tail _ (.tail _ (.tail _ (.tail _ (.tail _ (.tail _ hq')))))
        exact ⟨Nat.ne_of_lt (lq' q e), Nat.ne_of_lt (ln' q (.tail _ e)), bad q hq'⟩
    · have e : q ∈ (Ba, PySem.W.listOf #[.ref D] 0) :: (D, lst ys) :: (L + 1 + 1 + 1, o1) :: (L + 1 + 1, o2') :: (L + 1, o3) :: (Wa, oW) :: (wl ++ sl3) := .tail _ (.tail _ (.tail _ (.tail _ (.tail _ (.tail _ (List.mem_append_right _ hq))))))
      simp only [List.mem_cons, List.not_mem_nil, or_false, not_or]
      exact ⟨Nat.ne_of_lt (lq' q e), Nat.ne_of_lt (ln' q (.tail _ e)), bad q (List.mem_append_right _ hq), ap3 q hq (L + 1 + 1 + 1, o1) (by walk_at "sub1"), ap3 q hq (L + 1 + 1, o2') (by walk_at "sub1"), ap3 q hq (L + 1, o3) (by walk_at "sub1"), ap3 q hq (Wa, oW) (by walk_at "sub1")⟩
    · rcases List.mem_append.mp hr with hr | hr
      · exact ap3 q hq r (by walk_at "sub1")
      · rw [List.mem_singleton.mp hr]; exact ap3 q hq (D, lst ys) (by walk_at "sub1")
  have N6 : News g3 L h5 (oneLed Qa Na Ba L Wa o1' o2' o3 oW [] 0 [] 0 [.ref D] 0 wl [(D, lst ys)] sl3) := news_sub N5 (by walk_at "sub")
  clear N5 lq ln lt ap3 aL bL dL hWL aB aD bad Xg Tg
  have e3 : o3.data = .cell (some (.int sg tsg)) := d3
  refine while_H (L := L) (n := 4) (OneJ w ws sg S Qa Na Ba L Wa o1' o2' o3 oW wl) B3 F5 N6 ?_ ?_
  · exact ⟨0, mm, [], 0, [], 0, [.ref D], 0, _, sl3, ⟨rfl, by decide⟩, rfl, rfl, oa, .nil, .nil, .snoc (us := ys) .nil (.head _) hys, hS3⟩
  · intro Qn Qo n g4 m' led h4 tk4 hP1 S4 B4 F4 N4 hQn hQb hQr hQo; refine hideG fun G0 k0 => ?_; obtain ⟨i, mm4, qv, kq, nv, kn, bv, kb, bl, sl, ⟨rfl, hi⟩, rfl, rfl, oa4, hqv, hnv, hbl, hSl⟩ := hP1; refine k0 ?_; clear k0 G0
    clear N6 F5 hS3 oa hys
    have Xg := X.keeps B4.stays
    have Tg := T.keeps B4.stays
    have hsucc : turnN ws sg (i + 1) = turnPs sg (turnN ws sg i) := rfl
    obtain ⟨b, hb, hbi, hTF⟩ : ∃ b, activeN (turnN ws sg i) = b ∧ (b = true → i < 4) ∧ (b = true → TurnF sg (turnN ws sg i)) := by
      by_cases h4 : i < 4
      · exact ⟨true, (turn_ok (run_turn hrun h4)).act, fun _ => h4, fun _ => turn_ok (run_turn hrun h4)⟩
      · have e : i = 4 := by omega
        subst e
        exact ⟨false, run_end hrun, (fun h => by cases h), fun h => by cases h⟩
    have hfin : b = false → i = 4 := fun h => by
      by_cases h4 : i < 4
      · have := (turn_ok (run_turn hrun h4)).act
        rw [hb, h] at this; cases this
      · omega
    generalize hTN : turnN ws sg i = a at *
    refine hideG fun G0 k0 => ?_; obtain ⟨dS, N0, R0, sd, oN, rv, nr, l, hsl, hS0⟩ := id hSl; refine k0 ?_; clear k0 G0
    have N5 : News g4 L h4 ((S, instObj 137 dS) :: (dS, sdict sd N0 (.ref R0) a.1.p a.1.f) :: oneLed Qa Na Ba L Wa o1' o2' o3 oW qv kq nv kn bv kb wl bl sl) := fun q hq => by
      rcases List.mem_cons.mp hq with rfl | hq
      · exact N4 _ (oneLed_iff.mpr (.inl (by rw [hsl]; simp)))
      rcases List.mem_cons.mp hq with rfl | hq
      · exact N4 _ (oneLed_iff.mpr (.inl (by rw [hsl]; simp)))
      · exact N4 q hq
    clear hsl hS0 N4
    k_steps
    refine here ?_
    simp only [List.append_nil]
    refine Con.useE (env := envOfC (Str.ofString "_law_one_by_one") _ L 364 (.ref 363)) (rest := oneRest Qa Na Ba L Wa o1' o2' o3 oW qv kq nv kn bv kb wl bl)
      (active_S X T S a.1 sl hSl) B4 F4 N5 rfl rfl (dp_le (a := 3) hdp (by decide)) (un_le (a := 203) hun (by decide))
      (fun q hq => .tail _ (.tail _ (oneLed_iff.mpr (.inl hq)))) (fun q hq => ⟨.tail _ (.tail _ (oneLed_iff.mpr (.inr hq))), oa4.off_map hq⟩) ?_ (fun _ _ _ _ _ h => h.elim)
    intro g5 h5 tk5 S5 B5 F5 N6 ap5
    clear N5 F4 Xg Tg
    have Xg := X.keeps B5.stays
    have Tg := T.keeps B5.stays
    have oa5 := oa4.set_sl ap5
    have N7 : News g5 L h5 (oneLed Qa Na Ba L Wa o1' o2' o3 oW qv kq nv kn bv kb wl bl sl) := news_sub N6 fun q hq => by
      rcases oneLed_iff.mp hq with h | h
      · exact List.mem_append_left _ h
      · exact List.mem_append_right _ h
    clear N6 oa4 ap5
    have hb' : (decide (a.1.f < a.1.p) || !a.1.ready.isEmpty) = b := hb
    rw [hb']
    cases b with
    | false =>
      clear hTF hbi
      have h4 := hfin rfl
      k_steps
      refine hQo _ _ ?_
      clear hQn hQb hQr hQo Qn Qo
      k_steps
      rename_i Ta h6 F6 N8 l6
      show BodyQ g L envs s _ (.ret (.ref Ta)) _
      subst h4
      refine ⟨g5, _, (Wa, oW) :: wl ++ ((Ta, tupOf #[.ref Na, .ref Ba] 0) :: (Na, PySem.W.listOf nv.toArray kn) :: (Ba, PySem.W.listOf bv.toArray kb) :: bl), h6, _, rfl, S1.trans (S2.trans (S3.trans (S4.trans S5))), F6, news_sub N8 fun q hq => ?_, _, rfl, Ta, Na, Ba, nv, kn, bv, kb, rfl, .head _, .tail _ (.head _), ?_, .tail _ (.tail _ (.head _)), ?_⟩
      · revert q; walk_at "sub"
      · rw [oneN_turn, hTN]; exact hnv
      · rw [oneN_turn, hTN]; exact hbl.mono fun q hq => .tail _ (.tail _ (.tail _ hq))
    | true =>
      have hT := hTF rfl
      have hi4 := hbi rfl
      clear hTF hbi hfin hb hb' hQb hQr hQo
      k_steps
      refine hideQ fun Q1 E1 hQ1 hE1 => ?_
      refine for_E ?_ (fun _ => rfl)
      refine hideG fun G0 k0 => ?_; obtain ⟨dS, N0, R0, sd, oN, rv, nr, l, hsl, hS0⟩ := id hSl; refine k0 ?_; clear k0 G0
      have N8 : News g5 L h5 ((S, instObj 137 dS) :: (dS, sdict sd N0 (.ref R0) a.1.p a.1.f) :: oneLed Qa Na Ba L Wa o1' o2' o3 oW qv kq nv kn bv kb wl bl sl) := fun q hq => by
        rcases List.mem_cons.mp hq with rfl | hq
        · exact N7 _ (oneLed_iff.mpr (.inl (by rw [hsl]; simp)))
        rcases List.mem_cons.mp hq with rfl | hq
        · exact N7 _ (oneLed_iff.mpr (.inl (by rw [hsl]; simp)))
        · exact N7 q hq
      clear hsl hS0 N7
      k_steps
      refine here ?_
      simp only [List.append_nil]
      refine Con.use (env := envOfC (Str.ofString "_law_one_by_one") _ L 364 (.ref 363)) (rest := oneRest Qa Na Ba L Wa o1' o2' o3 oW qv kq nv kn bv kb wl bl)
        (ready_con X T S a.1 sl hSl hT.keys) B5 F5 N8 rfl rfl (dp_le (a := 3) hdp (by decide)) (un_le (a := 203) hun (by decide))
        (fun q hq => .tail _ (.tail _ (oneLed_iff.mpr (.inl hq)))) (fun q hq => ⟨.tail _ (.tail _ (oneLed_iff.mpr (.inr hq))), oa5.off_map hq⟩) ?_ (fun _ _ _ _ _ h => h.elim)
      intro v led6 g6 h6 tk6 hP1 S6 B6 F6 N9 ap6; refine hideG fun G0 k0 => ?_; obtain ⟨Ta, tv, kt, l6, rfl, rfl, htv, hS6, apT⟩ := hP1; refine k0 ?_; clear k0 G0
      clear N8 F5 Xg Tg
      have oa6 := oa5.set_sl (sl' := l6) fun p hp q hq => ap6 p (.tail _ hp) q hq
      have N10 : News g6 L h6 ((Ta, tupOf tv.toArray kt) :: oneLed Qa Na Ba L Wa o1' o2' o3 oW qv kq nv kn bv kb wl bl l6) := news_sub N9 fun q hq => by
        rcases List.mem_cons.mp hq with rfl | hq
        · exact .head _
        rcases oneLed_iff.mp hq with h | h
        · exact List.mem_append_left _ (.tail _ h)
        · exact List.mem_append_right _ h
      have aT : ∀ q ∈ oneLed Qa Na Ba L Wa o1' o2' o3 oW qv kq nv kn bv kb wl bl l6, q.1 ≠ Ta := fun q hq => by
        rcases oneLed_iff.mp hq with h | h
        · exact apT q h
        · exact Ne.symm (ap6 _ (.head _) q h)
      clear N9 ap6 apT oa5 hSl
      refine for_L (L := L) (source_tuple (by rfl) F6 N10 (.head _)) (fun q hq => by rw [List.mem_singleton.mp hq]; exact .head _)
        (OneF sg a.1.ready a.2.1 Ta tv kt Qa Na Ba L Wa o1' o2' o3 oW nv kn bv kb wl bl l6) ?_ B6 ?_ ?_ ?_ rfl rfl rfl
      · intro j m' ld hP1 q hq; refine hideG fun G0 k0 => ?_; obtain ⟨mm', qv', kq', _, rfl, _⟩ := hP1; refine k0 ?_; clear k0 G0
        rw [List.mem_singleton.mp hq]; exact .head _
      · exact ⟨mm4, qv, kq, rfl, rfl, hqv⟩
      · intro I j v g7 m' ld o h7 tk7 hj hP hP1 S7 B7 F7 N7 hI; refine hideG fun G0 k0 => ?_; obtain ⟨mm', qv', kq', rfl, rfl, hqv'⟩ := hP1; refine k0 ?_; clear k0 G0
        clear F6 N10
        have Xg := X.keeps B7.stays
        have Tg := T.keeps B7.stays
        refine hideG fun G0 k0 => ?_; obtain ⟨t, k, rfl, hki⟩ := ints_at' htv (by simpa using hP); refine k0 ?_; clear k0 G0
        have hk03 := hT.rr k (List.mem_of_getElem? hki)
        refine hideQ fun Q2 E2 hQ2 hE2 => ?_
        k_steps
        refine here ?_
        have hjl : j < a.1.ready.length := by
          rcases Nat.lt_or_ge j a.1.ready.length with h | h
          · exact h
          · rw [List.getElem?_eq_none h] at hki; cases hki
        have hql : ((a.1.ready.take j).foldl (fun q k => pushH q (sg * k)) a.2.1).length ≤ 3 := by
          have := hT.qlen
          rw [push_fold, List.length_take]; omega
        refine Con.useV (env := envOfC (Str.ofString "_law_one_by_one") _ L 364 (.ref 363)) (rest := (I, o) :: (Ta, tupOf tv.toArray kt) :: (Na, PySem.W.listOf nv.toArray kn) :: (Ba, PySem.W.listOf bv.toArray kb) :: (L + 1 + 1 + 1, o1') :: (L + 1 + 1, o2') :: (L + 1, o3) :: (Wa, oW) :: (wl ++ (bl ++ l6)))
          (push_any X T Qa kq' hqv' hql (sg * k) tk7) B7 F7 N7 rfl rfl (dp_le (a := 5) hdp (by decide)) (un_le (a := 403) hun (by decide))
          (fun q hq => by rw [List.mem_singleton.mp hq]; exact .tail _ (.tail _ (.head _))) (fun q hq => ⟨?_, fun hm => ?_⟩) ?_ (fun _ _ _ _ _ h => h.elim)
        · revert q; refine all_cons (.head _) ?_; refine all_cons (.tail _ (.head _)) ?_; intro q hq; exact .tail _ (.tail _ (.tail _ hq))
        · have e : q.1 = Qa := by simpa using hm
          rcases List.mem_cons.mp hq with rfl | hq
          · exact hI (Qa, PySem.W.listOf qv'.toArray kq') (.tail _ (.head _)) e.symm
          rcases List.mem_cons.mp hq with rfl | hq
          · exact aT (Qa, PySem.W.listOf qv.toArray kq) (.head _) e.symm
          · exact oa6.offQ q hq e
        · intro led8 g8 h8 tk8 hP1 S8 B8 F8 N8 ap8; refine hideG fun G0 k0 => ?_; obtain ⟨qv8, kq8, rfl, hqv8⟩ := hP1; refine k0 ?_; clear k0 G0
          clear N7 F7 Xg Tg
          have Xg := X.keeps B8.stays
          have Tg := T.keeps B8.stays
          k_steps
          refine hQ2 _ _ ?_
          show Goes envs g7 L _ _ _
          refine ⟨g8, _, (I, o) :: (Ta, tupOf tv.toArray kt) :: oneLed Qa Na Ba L Wa o1' o2' o3 oW qv8 kq8 nv kn bv kb wl bl l6, h8, _, rfl, S8, F8, news_sub N8 fun q hq => ?_, _, rfl, ⟨fun y => if y = Str.ofString "k" then some (.int k t) else mm' y, qv8, kq8, ?_, rfl, ?_⟩, fun q hq => ?_⟩
          · revert q; refine all_cons (.tail _ (.head _)) ?_; refine all_cons (.tail _ (.tail _ (.head _))) ?_; refine all_cons (.head _) ?_; intro q hq; exact .tail _ (.tail _ (.tail _ hq))
          · funext y
            by_cases e : y = Str.ofString "nest"
            · subst e; rfl
            · by_cases e2 : y = Str.ofString "barred"
              · subst e2; rfl
              · simp [e, e2]
          · rw [foldl_take_succ _ _ _ hki]; exact hqv8
          · revert q; refine all_cons (hI _ (.head _)) ?_; refine all_cons (hI (Qa, PySem.W.listOf qv'.toArray kq') (.tail _ (.head _))) ?_; intro q hq; exact hI q (.tail _ (.tail _ hq))
      · intro g7 m' ld h7 tk7 hP1 S7 B7 F7 N7; refine hideG fun G0 k0 => ?_; obtain ⟨mm7, qv7, kq7, rfl, rfl, hqv7⟩ := hP1; refine k0 ?_; clear k0 G0
        clear F6 N10
        have Xg := X.keeps B7.stays
        have Tg := T.keeps B7.stays
        refine hQ1 _ _ ?_
        clear hQ1 hE1 Q1 E1
        have hqv7' : IntsAre qv7 (queueN sg a) := by
          have e : a.1.ready.take tv.toArray.size = a.1.ready := List.take_of_length_le (by rw [List.size_toArray, htv.length]; exact Nat.le_refl _)
          rw [e] at hqv7
          exact hqv7
        clear hqv7 hqv
        have N8 : News g7 L h7 (oneLed Qa Na Ba L Wa o1' o2' o3 oW qv7 kq7 nv kn bv kb wl bl l6) := news_sub N7 fun q hq => .tail _ hq
        clear N7 aT htv
        dsimp only
        k_steps
        refine ListComp_J (by with_unfolding_all rfl) (by rfl) (by decide) ?_ (fun _ => rfl)
        k_steps
        rename_i h8 tx8 t8 u8 v8 R8 F8 N9 k8
        clear k8
        refine filt_pure (L := L) (fun j => !decide (sg * (j : Int) ∈ queueN sg a)) (source_range (n := 5) (by rfl) F8 N9 R8 (by decide) (by rfl)) (fun q hq => nomatch hq) (by decide) B7 ?_ ?_ (by decide) (by rfl) (by rfl) (by decide)
        · rintro hx I C D2 j v ys2 g9 oI oC m₂ h9 tk9 hj ⟨tj, rfl⟩ S9 B9 F9 hC hx2 N10 ne off
          clear F8 N9 R8 Xg Tg
          have Xg := X.keeps B9.stays
          have Tg := T.keeps B9.stays
          refine hideQ fun Q2 E2 hQ2 hE2 => ?_
          k_steps
          · rename_i hany
            rw [any_mem, Int.zero_add] at hany
            exact hQ2 _ _ ⟨by rw [hany]; rfl, g9, _, h9, _, rfl, Slid.refl .., F9, N10, off, rfl⟩
          · rename_i hany _
            refine here ?_
            rw [any_mem, Int.zero_add] at hany
            have hnq : sg * (j : Int) ∉ queueN sg a := of_decide_eq_false hany
            have hrf := (hT.ref j hj).resolve_left hnq
            refine Con.useE (env := envOfC (Str.ofString "_law_one_by_one") _ L 364 (.ref 363)) (rest := (I, oI) :: (C, oC) :: (D2, lst ys2) :: oneRest Qa Na Ba L Wa o1' o2' o3 oW qv7 kq7 nv kn bv kb wl bl)
              (refuse_any X T S (readyPs a.1) l6 hS6 (0 + (j : Int)) tj (by omega) (by rw [Int.zero_add]; exact hrf)) B9 F9 N10 rfl rfl (dp_le (a := 5) hdp (by decide)) (un_le (a := 403) hun (by decide))
              (fun q hq => .tail _ (.tail _ (.tail _ (oneLed_iff.mpr (.inl hq))))) (fun q hq => ⟨?_, fun hm => ?_⟩) ?_ (fun _ _ _ _ _ h => h.elim)
            · revert q; refine all_cons (.head _) ?_; refine all_cons (.tail _ (.head _)) ?_; refine all_cons (.tail _ (.tail _ (.head _))) ?_; intro q hq; exact .tail _ (.tail _ (.tail _ (oneLed_iff.mpr (.inr hq))))
            · refine hideG fun G0 k0 => ?_; obtain ⟨r, hr, e⟩ := List.mem_map.mp hm; refine k0 ?_; clear k0 G0
              have ho := off r (oneLed_iff.mpr (.inl hr))
              rcases List.mem_cons.mp hq with rfl | hq
              · exact ho.1 e
              rcases List.mem_cons.mp hq with rfl | hq
              · exact ho.2.1 e
              rcases List.mem_cons.mp hq with rfl | hq
              · exact ho.2.2 e
              · exact oa6.off_map hq hm
            · intro g10 h10 tk10 S10 B10 F10 N11 ap10
              clear N10 F9 Xg Tg
              have Xg := X.keeps B10.stays
              have Tg := T.keeps B10.stays
              k_steps
              refine hQ2 _ _ ⟨by rw [hany]; rfl, g10, _, h10, _, rfl, S10, F10, news_sub N11 fun q hq => ?_, off, rfl⟩
              rcases List.mem_cons.mp hq with rfl | hq
              · exact List.mem_append_right _ (.head _)
              rcases List.mem_cons.mp hq with rfl | hq
              · exact List.mem_append_right _ (.tail _ (.head _))
              rcases List.mem_cons.mp hq with rfl | hq
              · exact List.mem_append_right _ (.tail _ (.tail _ (.head _)))
              rcases oneLed_iff.mp hq with h | h
              · exact List.mem_append_left _ h
              · exact List.mem_append_right _ (.tail _ (.tail _ (.tail _ h)))
        · intro ys2 D2 g9 h9 tk9 hs9 S9 B9 F9 N10 off9
          clear F8 N9 R8 Xg Tg
          have Xg := X.keeps B9.stays
          have Tg := T.keeps B9.stays
          have hys2 : IntsAre ys2 (barredAt (readyPs a.1) sg (queueN sg a)) := by
            have h1 := Sel.ints (f := fun j => 0 + (j : Int)) hs9
            have e : (fun (j : Nat) => (0 : Int) + (j : Int)) = fun (j : Nat) => (j : Int) := funext fun j => Int.zero_add _
            rw [e] at h1
            unfold barredAt
            rw [List.filter_map]
            exact h1
          clear hs9
          dsimp only
          k_steps
          have hbsz : bv.toArray.size ≤ sizeLine := by
            rw [List.size_toArray, hbl.len]; exact Nat.le_trans hT.bl (by decide)
          refine append_K F9 N10 (upd_of (pre := [(D2, lst ys2), (Qa, PySem.W.listOf qv7.toArray kq7), (Na, PySem.W.listOf nv.toArray kn)]) (fun q hq => ?_) (fun q hq => ?_)) (fun h10 F10 N11 => ?_) hbsz
          · exact oa6.offB (on := PySem.W.listOf nv.toArray kn) (oq := PySem.W.listOf qv7.toArray kq7) q (.tail _ (.tail _ hq))
          · revert q; refine all_cons (Ne.symm (off9 (Ba, PySem.W.listOf bv.toArray kb) (.tail _ (.tail _ (.head _))))) ?_; intro q hq; exact oa6.offB (on := PySem.W.listOf nv.toArray kn) (oq := PySem.W.listOf qv7.toArray kq7) (o1 := o1') (o2 := o2') (o3 := o3) (oW := oW) q (by simp only [List.mem_cons, List.not_mem_nil, or_false] at hq ⊢; rcases hq with h | h <;> simp [h])
          have oa10 := oa6.add_bl (oD := lst ys2) off9
          have hbl10 : NL ((D2, lst ys2) :: bl) (bv ++ [Value.ref D2]) (a.2.2.2 ++ [barredAt (readyPs a.1) sg (queueN sg a)]) := .snoc (hbl.mono fun q hq => .tail _ hq) (.head _) hys2
          have N12 : News g9 L h10 (oneLed Qa Na Ba L Wa o1' o2' o3 oW qv7 kq7 nv kn (bv ++ [Value.ref D2]) (kb + 1) wl ((D2, lst ys2) :: bl) l6) := news_sub N11 fun q hq => by
            rw [List.push_toArray]
            rcases List.mem_cons.mp hq with rfl | hq
            · exact .tail _ (.head _)
            rcases List.mem_cons.mp hq with rfl | hq
            · exact .tail _ (.tail _ (.head _))
            rcases List.mem_cons.mp hq with rfl | hq
            · exact .tail _ (.tail _ (.tail _ (.head _)))
            have hq' : q = (D2, lst ys2) ∨ q ∈ (L + 1 + 1 + 1, o1') :: (L + 1 + 1, o2') :: (L + 1, o3) :: (Wa, oW) :: (wl ++ (bl ++ l6)) := by
              simp only [List.cons_append, List.mem_cons, List.mem_append] at hq ⊢
              rcases hq with h | h | h | h | h | h | h | h <;> simp [h]
            rcases hq' with rfl | hq'
            · exact .head _
            · exact .tail _ (.tail _ (.tail _ (.tail _ hq')))
          clear N10 N11 F9 off9 hbsz hys2 oa6 hbl
          k_steps
          refine here ?_
          refine Con.use (env := envOfC (Str.ofString "_law_one_by_one") _ L 364 (.ref 363)) (rest := (Na, PySem.W.listOf nv.toArray kn) :: (Ba, PySem.W.listOf (bv ++ [Value.ref D2]).toArray (kb + 1)) :: (L + 1 + 1 + 1, o1') :: (L + 1 + 1, o2') :: (L + 1, o3) :: (Wa, oW) :: (wl ++ (((D2, lst ys2) :: bl) ++ l6)))
            (pop_any X T Qa kq7 hqv7' hT.q1 hT.q4) B9 F10 N12 rfl rfl (dp_le (a := 6) hdp (by decide)) (un_le (a := 503) hun (by decide))
            (fun q hq => by rw [List.mem_singleton.mp hq]; exact .head _) (fun q hq => ⟨.tail _ hq, fun hm => oa10.offQ q hq (by simpa using hm)⟩) ?_ (fun _ _ _ _ _ h => h.elim)
          intro v led g11 h11 tk11 hP1 S11 B11 F11 N13 ap11; refine hideG fun G0 k0 => ?_; obtain ⟨⟨tp, rfl⟩, qv11, kq11, rfl, hqv11⟩ := hP1; refine k0 ?_; clear k0 G0
          clear N12 F10 Xg Tg hqv7'
          have Xg := X.keeps B11.stays
          have Tg := T.keeps B11.stays
          have N14 : News g11 L h11 (oneLed Qa Na Ba L Wa o1' o2' o3 oW qv11 kq11 nv kn (bv ++ [Value.ref D2]) (kb + 1) wl ((D2, lst ys2) :: bl) l6) := N13
          clear N13 ap11
          have hfr := hT.fr
          k_steps
          rename_i h12 F12 N15
          have hnsz : nv.toArray.size ≤ sizeLine := by
            rw [List.size_toArray, hnv.length]; exact Nat.le_trans hT.nl (by decide)
          refine append_K F12 N15 (upd_of (pre := [(Qa, PySem.W.listOf qv11.toArray kq11)]) (fun q hq => ?_) (fun q hq => ?_)) (fun h13 F13 N16 => ?_) hnsz
          · exact oa10.offN (oq := PySem.W.listOf qv11.toArray kq11) q (.tail _ hq)
          · exact oa10.offN (oq := PySem.W.listOf qv11.toArray kq11) (ob := PySem.W.listOf (bv ++ [Value.ref D2]).toArray (kb + 1)) (o1 := o1') (o2 := o2') (o3 := o3) (oW := oW) q (by rw [List.mem_singleton.mp hq]; exact .head _)
          have hnv13 : IntsAre (nv ++ [.int (sg * (popH (queueN sg a)).1) tk11]) (a.2.2.1 ++ [sg * (popH (queueN sg a)).1]) := IntsAre.app hnv (.cons _ _ .nil)
          refine hideG fun G0 k0 => ?_; obtain ⟨dS6, N06, R06, sd6, oN6, rv6, nr6, l66, hsl6, hS06⟩ := id hS6; refine k0 ?_; clear k0 G0
          have N17 : News g11 L h13 ((S, instObj 137 dS6) :: (dS6, sdict sd6 N06 (.ref R06) (readyPs a.1).p (readyPs a.1).f) :: oneLed Qa Na Ba L Wa o1' o2' o3 oW qv11 kq11 (nv ++ [Value.int (sg * (popH (queueN sg a)).1) tk11]) (kn + 1) (bv ++ [Value.ref D2]) (kb + 1) wl ((D2, lst ys2) :: bl) l6) := by
            have N18 : News g11 L h13 (oneLed Qa Na Ba L Wa o1' o2' o3 oW qv11 kq11 (nv ++ [Value.int (sg * (popH (queueN sg a)).1) tk11]) (kn + 1) (bv ++ [Value.ref D2]) (kb + 1) wl ((D2, lst ys2) :: bl) l6) := by
              rw [List.push_toArray] at N16
              exact N16
            intro q hq
            rcases List.mem_cons.mp hq with rfl | hq
            · exact N18 _ (oneLed_iff.mpr (.inl (by rw [hsl6]; simp)))
            rcases List.mem_cons.mp hq with rfl | hq
            · exact N18 _ (oneLed_iff.mpr (.inl (by rw [hsl6]; simp)))
            · exact N18 q hq
          clear N15 N16 F12 hnsz hnv hsl6 hS06
          k_steps
          refine here ?_
          refine Con.useV (env := envOfC (Str.ofString "_law_one_by_one") _ L 364 (.ref 363)) (rest := oneRest Qa Na Ba L Wa o1' o2' o3 oW qv11 kq11 (nv ++ [Value.int (sg * (popH (queueN sg a)).1) tk11]) (kn + 1) (bv ++ [Value.ref D2]) (kb + 1) wl ((D2, lst ys2) :: bl))
            (done_con X T S (sg * (popH (queueN sg a)).1) tk11 (readyPs a.1) l6 hS6 hT.dk hT.dn hT.ds hT.dl hT.dr) B11 F13 N17 rfl rfl (dp_le (a := 3) hdp (by decide)) (un_le (a := 203) hun (by decide))
            (fun q hq => .tail _ (.tail _ (oneLed_iff.mpr (.inl hq)))) (fun q hq => ⟨.tail _ (.tail _ (oneLed_iff.mpr (.inr hq))), oa10.off_map hq⟩) ?_ (fun _ _ _ _ _ h => h.elim)
          intro led14 g14 h14 tk14 hS14 S14 B14 F14 N19 ap14
          clear N17 F13 Xg Tg
          have Xg := X.keeps B14.stays
          have Tg := T.keeps B14.stays
          k_steps
          refine hQn _ ?_
          refine ⟨g14, _, oneLed Qa Na Ba L Wa o1' o2' o3 oW qv11 kq11 (nv ++ [Value.int (sg * (popH (queueN sg a)).1) tk11]) (kn + 1) (bv ++ [Value.ref D2]) (kb + 1) wl ((D2, lst ys2) :: bl) led14, h14, _, rfl, S5.trans (S6.trans (S7.trans (S9.trans (S11.trans S14)))), F14, news_sub N19 fun q hq => ?_, 4 - (i + 1), by omega, i + 1, fun y => if y = Str.ofString "foremost" then some (Value.int (sg * (popH (queueN sg a)).1) tk11) else mm7 y, qv11, kq11, _, kn + 1, _, kb + 1, _, led14, ⟨rfl, by omega⟩, ?_, rfl, oa10.set_sl ap14, ?_, ?_, ?_, ?_⟩
          · rcases oneLed_iff.mp hq with h | h
            · exact List.mem_append_left _ h
            · exact List.mem_append_right _ h
          · funext y
            by_cases e : y = Str.ofString "nest"
            · subst e; rfl
            · by_cases e2 : y = Str.ofString "barred"
              · subst e2; rfl
              · simp [e, e2]
          · rw [hsucc, turn_succ]; exact hqv11
          · rw [hsucc, turn_succ]; exact hnv13
          · rw [hsucc, turn_succ]; exact hbl10
          · rw [hsucc, turn_succ]; exact hS14
end
end Mine
end

section
open PySem PySem.Spec PySem.Calls PySem.W PyProof.Rows PyProof.Rows.LCg PySem.SeqAt
set_option Elab.async false
set_option maxRecDepth 100000
set_option maxHeartbeats 16000000
set_option linter.unusedVariables false
namespace Mine
noncomputable def byT (good : List (List Int)) (nest : List Int) : Nat → List (List Int) × List (List Int)
  | 0 => (good, [[0, 1, 2, 3, 4]])
  | i + 1 => ((byT good nest i).1.filter (fun one => one.getD i 0 == nest.getD i 0), (byT good nest i).2 ++ [((List.range 5).map fun (j : Nat) => (j : Int)).filter fun j => !decide (j ∈ (byT good nest i).1.map fun one => one.getD i 0)])
theorem NL.sel {gl : List (Addr × Obj)} {lv : List Value} {ws : List (List Int)} {p : Nat → Bool} (h : NL gl lv ws) {i : Nat} {ys : List Value} (hs : Sel (fun i v => lv.toArray[i]? = some v) p i ys) : NL gl ys (((List.range i).filter p).map fun k => ws.getD k []) := by
  induction hs with
  | zero => exact .nil
  | yes hp hv _ ih =>
    rw [range_filter_succ, if_pos hp, List.map_append]
    refine hideG fun G0 k0 => ?_; obtain ⟨a, us, k, u, rfl, hm, hu, hw⟩ := h.at (by simpa using hv); refine k0 ?_; clear k0 G0
    rw [List.map_cons, List.map_nil, List.getD_eq_getElem?_getD, hw]
    exact .snoc ih hm hu
  | no hp _ ih =>
    rw [range_filter_succ, hp, if_neg (by decide), List.append_nil]
    exact ih
theorem NL.all {gl : List (Addr × Obj)} {lv : List Value} {ws : List (List Int)} {q : List Int → Bool} (h : NL gl lv ws) {ys : List Value} (hs : Sel (fun i v => lv.toArray[i]? = some v) (fun i => q (ws.getD i [])) lv.length ys) : NL gl ys (ws.filter q) := by
  have := h.sel hs
  have e := filter_at q ws
  change List.map (fun i => ws.getD i []) (List.filter (fun i => q (ws.getD i [])) (List.range ws.length)) = _ at e
  rw [h.len, e] at this
  exact this
theorem by_len {good : List (List Int)} (h : ∀ x ∈ good, x.length = 4) (u : List Int) : ∀ i, ∀ x ∈ (byT good u i).1, x.length = 4
  | 0, x, hx => h x hx
  | i + 1, x, hx => by_len h u i x (List.mem_filter.mp hx).1
theorem by_size (good : List (List Int)) (u : List Int) : ∀ i, (byT good u i).1.length ≤ good.length
  | 0 => Nat.le_refl _
  | i + 1 => Nat.le_trans (List.length_filter_le _ _) (by_size good u i)
theorem by_bsize (good : List (List Int)) (u : List Int) : ∀ i, (byT good u i).2.length = i + 1
  | 0 => rfl
  | i + 1 => by simp only [byT, List.length_append, List.length_singleton, by_bsize good u i]
theorem map_at {β : Type} (f : List Int → β) (l : List (List Int)) : ((List.range l.length).filter fun _ => true).map (fun k => f (l.getD k [])) = l.map f := by
  have e := filter_at (fun _ => true) l
  change List.map (fun i => l.getD i []) (List.filter (fun _ => true) (List.range l.length)) = _ at e
  have : ((List.range l.length).filter fun _ => true).map (fun k => f (l.getD k [])) = (((List.range l.length).filter fun _ => true).map (fun k => l.getD k [])).map f := by rw [List.map_map]; rfl
  rw [this, e, List.filter_eq_self.mpr (fun _ _ => rfl)]
theorem at_val {ws : List (List Int)} {u2 : List Int} {k i : Nat} (hw : ws[k]? = some u2) : (ws.getD k []).getD i 0 = u2.getD i 0 := by
  rw [List.getD_eq_getElem?_getD (l := ws), hw, Option.getD_some]
theorem item_of {ua : List Value} {u2 : List Int} {i : Nat} (hua : IntsAre ua u2) (h4 : u2.length = 4) (hi : i < 4) : ∃ t, ua.toArray[((0 : Int) + (i : Int)).toNat]? = some (.int (u2.getD i 0) t) := by
  have e := zn i
  rw [e]
  exact ints_get hua (by rw [List.getD_eq_getElem?_getD, List.getElem?_eq_getElem (by omega)]; rfl)
inductive ByJ (good : List (List Int)) (u : List Int) (Ba L G : Addr) (o3 : Obj) (gv : List Value) (kg : Nat) (gl : List (Addr × Obj)) (i : Nat) (m' : Str → Option Value) (led : List (Addr × Obj)) : Prop
  | mk (mm : Str → Option Value) (LA : Addr) (lv : List Value) (kl : Nat) (bv : List Value) (kb : Nat) (bl : List (Addr × Obj)) (oT oX : Obj) (vT vX : Option Value) (em : m' = fun y => if y = Str.ofString "barred" then some (.ref Ba) else if y = Str.ofString "left" then some (.ref LA) else mm y)
    (eT : oT.data = .cell vT) (eX : oX.data = .cell vX) (e : led = (LA, PySem.W.listOf lv.toArray kl) :: (Ba, PySem.W.listOf bv.toArray kb) :: (L + 1 + 1 + 1, oX) :: (L + 1 + 1, oT) :: (L + 1, o3) :: (G, PySem.W.listOf gv.toArray kg) :: (gl ++ bl))
    (h1 : NL gl lv (byT good u i).1) (h2 : NL bl bv (byT good u i).2) (n1 : LA ≠ Ba) (n2 : LA ≠ L + 1 + 1 + 1) (n3 : LA ≠ L + 1 + 1) (ap : ∀ q ∈ bl, q.1 ≠ Ba ∧ q.1 ≠ L + 1 + 1 + 1 ∧ q.1 ≠ L + 1 + 1) : ByJ good u Ba L G o3 gv kg gl i m' led
section
variable {w : World} {base : Heap} {p : Program} {loose : List Str} {mean : ExcName → Option Value} {mg mb : Str → Option Value}
theorem by_con (X : (k0.heap_1 w.params).In base) (T : Top p loose mean mg mb base) (G ar : Addr) (gv us : List Value) (kg ku : Nat) (gl : List (Addr × Obj)) (good : List (List Int)) (u : List Int) (hG : NL gl gv good) (hg4 : ∀ x ∈ good, x.length = 4) (hu : IntsAre us u) (hu4 : u.length = 4) (har : (ar, W.listOf us.toArray ku) ∈ gl) (hgl : good.length ≤ 24) :
    Con w base 369 [.ref G, .ref ar] 1 ((G, W.listOf gv.toArray kg) :: gl) (fun v l => ∃ l', l = (G, W.listOf gv.toArray kg) :: gl ++ l' ∧ AnsAt v l' (byN good u).1 (byN good u).2) (fun _ _ => False) := by
  k_with_none
  k_with "walk1" => first | (with_reducible refine Nx.next (by assumption) _ ?_; (try clear hN); (try clear Qc)) | (with_reducible refine Nx.ret (by assumption) ?_; (try clear hN); (try clear Qc)) | (with_reducible refine Nx.brk (by assumption) ?_; (try clear hN); (try clear Qc)) | (with_reducible refine Nx.cont (by assumption) ?_; (try clear hN); (try clear Qc))
  k_with "execs cons" => (refine execs_h fun Qc hN => ?_)
  k_with "eval ListComp" => refine here ?_
  k_with "exec Assign cons ListComp" => ((with_reducible show wpAny _ _ (exec (.Assign [.Name (Str.ofString "left") _] _ _) _) _ _ _); refine here ?_)
  k_with "exec For Name Call cons nil" => refine here ?_
  k_with "subscriptTail Name Name ref int" => (k_dflt (refine' sub_int ?N ?m ?h0 ?h1 ?hx ?_ ?hs; (case N => k_asm); (case m => k_mem); (case h0 => omega); (case h1 => omega); (case hx => assumption); (case hs => with_unfolding_all rfl); k_whole))
  k_with "k_all" => assumption
  k_with "k_ne" => omega
  k_with "k_ne" => first | assumption | (refine Ne.symm ?_; assumption)
  refine' Con.ofC (binds := [(Str.ofString "nests", .ref G), (Str.ofString "nest", .ref ar)]) X T ?ho ?hcd ?hb ?hl ?hn ?h ?c2 ?c3 ?c4
  k_dflt ((case ho => k_is); (case hcd => k_is); (case hb => exact fun _ => BindsTo.of_eq rfl); (case hl => exact rfl); (case hn => decide +kernel); (case c2 => exact rfl); (case c3 => exact rfl); (case c4 => exact rfl))
  intro dp envs gd un s g L h₁ tk cells hdp hun B Xg Tg F N Y hlt
  k_cells Y
  simp only [List.cons_append, List.nil_append] at N
  try k_fold
  k_steps
  refine for_E ?_ (fun _ => rfl)
  k_steps
  rename_i oX oT o3 dX dT d3 D0 hD lD Ba hB lB Dt ht lt x1 x2 h2 F2 N2 h3 tx3 t3 u3 v3 R3 F3 N3 k3
  have e3 : o3.data = .cell (some (.ref ar)) := d3
  have b1 : ∀ q ∈ (L + 1 + 1 + 1, oX) :: (L + 1 + 1, oT) :: (L + 1, o3) :: (G, PySem.W.listOf gv.toArray kg) :: gl, q.1 ≠ Ba := fun q hq => Nat.ne_of_lt (allLt_mem (l := (D0, PySem.W.listOf #[] 0) :: (L + 1 + 1 + 1, oX) :: (L + 1 + 1, oT) :: (L + 1, o3) :: (G, PySem.W.listOf gv.toArray kg) :: gl) lB q (.tail _ hq))
  have b2 : @LT.lt Nat _ D0 Ba := lB.1
  have hGL : @LT.lt Nat _ G L := hlt _ (.head _)
  obtain ⟨ds, hds, N4⟩ : ∃ ds : List Value, IntsAre ds [0, 1, 2, 3, 4] ∧ News g L h3 ((G, PySem.W.listOf gv.toArray kg) :: (Ba, PySem.W.listOf [Value.ref D0].toArray 0) :: (L + 1 + 1 + 1, oX) :: (L + 1 + 1, oT) :: (L + 1, o3) :: (G, PySem.W.listOf gv.toArray kg) :: (gl ++ [(D0, PySem.W.listOf ds.toArray 0)])) :=
    ⟨[_, _, _, _, _], .cons _ _ (.cons _ _ (.cons _ _ (.cons _ _ (.cons _ _ .nil)))), fun q hq => by
      rcases List.mem_cons.mp hq with rfl | hq
      · exact N3 _ (.tail _ (.tail _ (.tail _ (.tail _ (.tail _ (.tail _ (.head _)))))))
      rcases List.mem_cons.mp hq with rfl | hq
      · exact N3 _ (.tail _ (.head _))
      rcases List.mem_cons.mp hq with rfl | hq
      · exact N3 _ (.tail _ (.tail _ (.tail _ (.head _))))
      rcases List.mem_cons.mp hq with rfl | hq
      · exact N3 _ (.tail _ (.tail _ (.tail _ (.tail _ (.head _)))))
      rcases List.mem_cons.mp hq with rfl | hq
      · exact N3 _ (.tail _ (.tail _ (.tail _ (.tail _ (.tail _ (.head _))))))
      rcases List.mem_cons.mp hq with rfl | hq
      · exact N3 _ (.tail _ (.tail _ (.tail _ (.tail _ (.tail _ (.tail _ (.head _)))))))
      rcases List.mem_append.mp hq with hq | hq
      · exact N3 _ (.tail _ (.tail _ (.tail _ (.tail _ (.tail _ (.tail _ (.tail _ hq)))))))
      · rw [List.mem_singleton.mp hq]; exact N3 _ (.tail _ (.tail _ (.head _)))⟩
  refine for_A (L := L) (source_range (n := 4) (by rfl) F3 N4 R3 (by decide) (by rfl)) (fun q hq => nomatch hq)
    (ByJ good u Ba L G o3 gv kg gl) (fun _ _ _ _ q hq => nomatch hq) B ?_ ?_ ?_
  · have c1 : @LT.lt Nat _ (L + 1 + 1 + 1) D0 := lD.1
    have c2 : @LT.lt Nat _ (L + 1 + 1) D0 := lD.2.1
    refine ⟨_, G, gv, kg, [.ref D0], 0, [(D0, _)], oT, oX, _, _, rfl, dT, dX, rfl, hG, .snoc (us := ds) .nil (.head _) hds, b1 (G, PySem.W.listOf gv.toArray kg) (.tail _ (.tail _ (.tail _ (.head _)))), ?_, ?_, fun q hq => ?_⟩
    · exact Nat.ne_of_lt (Nat.lt_trans hGL (Nat.lt_succ_of_lt (Nat.lt_succ_of_lt (Nat.lt_succ_self _))))
    · exact Nat.ne_of_lt (Nat.lt_trans hGL (Nat.lt_succ_of_lt (Nat.lt_succ_self _)))
    · rw [List.mem_singleton.mp hq]
      exact ⟨Nat.ne_of_lt b2, Ne.symm (Nat.ne_of_lt c1), Ne.symm (Nat.ne_of_lt c2)⟩
  · intro I i v g' m' l o h tk' hi hP hJ Sl B' F' N' hI
    clear F2 N2 F3 N3 Xg Tg k3 R3 lD lB lt
    have Xg := X.keeps B'.stays
    have Tg := T.keeps B'.stays
    obtain ⟨tv, rfl⟩ := hP
    refine hideG fun G0 k0 => ?_; obtain ⟨mm, LA, lv, kl, bv, kb, bl, oT, oX, vT, vX, rfl, dT, dX, rfl, hnl, hbl, ne1, ne2, ne3, hb⟩ := hJ; refine k0 ?_; clear k0 G0
    have hlen4 := by_len hg4 u i
    have hsz := by_size good u i
    have hbs := by_bsize good u i
    generalize hTi : byT good u i = bt at *
    have i1 : @Ne Nat LA I := hI _ (.head _)
    have i2 : @Ne Nat Ba I := hI _ (.tail _ (.head _))
    have i3 : @Ne Nat (L + 1 + 1 + 1) I := hI _ (.tail _ (.tail _ (.head _)))
    have i4 : @Ne Nat (L + 1 + 1) I := hI _ (.tail _ (.tail _ (.tail _ (.head _))))
    have n1 : @Ne Nat LA Ba := ne1
    have n2 : @Ne Nat LA (L + 1 + 1 + 1) := ne2
    have n3 : @Ne Nat LA (L + 1 + 1) := ne3
    have n4 : @Ne Nat (L + 1 + 1 + 1) Ba := b1 _ (.head _)
    have n5 : @Ne Nat (L + 1 + 1) Ba := b1 _ (.tail _ (.head _))
    have c1 : ∀ q ∈ gl ++ bl, q.1 ≠ L + 1 + 1 := fun q hq => by
      rcases List.mem_append.mp hq with hq | hq
      · exact Nat.ne_of_lt (Nat.lt_trans (hlt q (.tail _ hq)) (Nat.lt_succ_of_lt (Nat.lt_succ_self _)))
      · exact (hb q hq).2.2
    have c2 : ∀ q ∈ gl ++ bl, q.1 ≠ L + 1 + 1 + 1 := fun q hq => by
      rcases List.mem_append.mp hq with hq | hq
      · exact Nat.ne_of_lt (Nat.lt_trans (hlt q (.tail _ hq)) (Nat.lt_succ_of_lt (Nat.lt_succ_of_lt (Nat.lt_succ_self _))))
      · exact (hb q hq).2.1
    try k_fold
    refine hideQ fun Q1 E1 hQ1 hE1 => ?_
    k_steps
    rename_i h5 oT2 F5 N5 dT2
    refine hQ1 _ _ ?_
    clear hQ1 hE1 Q1 E1 dT
    refine hideQ fun Q1 E1 hQ1 hE1 => ?_
    k_steps
    refine ListComp_J (by with_unfolding_all rfl) (by rfl) (by decide) ?_ (fun _ => rfl)
    k_steps
    have hbl5 := hnl.len
    refine map_pure (L := L) (fun k y => ∃ t, y = .int ((bt.1.getD k []).getD i 0) t) (source_list (k := kl) (by rfl) F5 N5 (.tail _ (.head _))) (fun q hq => by rw [List.mem_singleton.mp hq]; exact .tail _ (.head _)) (by rw [List.size_toArray, hnl.len]; exact Nat.le_trans hsz (Nat.le_trans hgl (by decide))) B' ?_ ?_ (by decide) (by rfl) (by rfl)
    · intro hx I2 C D k v ys g6 oI oC m₂ h6 tk6 hk hP S6 B6 F6 hC hx2 N6 ne off
      clear F5 N5 Xg Tg
      have Xg := X.keeps B6.stays
      have Tg := T.keeps B6.stays
      refine hideG fun G0 k0 => ?_; obtain ⟨a, ua, ka, u2, rfl, hma, hua, hwa⟩ := hnl.at (by simpa using hP); refine k0 ?_; clear k0 G0
      have hu24 : u2.length = 4 := hlen4 u2 (List.mem_of_getElem? hwa)
      obtain ⟨tu, hget⟩ := item_of hua hu24 hi
      have N7 : News g6 L h6 ((a, PySem.W.listOf ua.toArray ka) :: (I2, oI) :: (C, oC) :: (D, lst ys) :: (I, o) :: (LA, PySem.W.listOf lv.toArray kl) :: (Ba, PySem.W.listOf bv.toArray kb) :: (L + 1 + 1 + 1, oX) :: (L + 1 + 1, oT2) :: (L + 1, o3) :: (G, PySem.W.listOf gv.toArray kg) :: (gl ++ bl)) := fun q hq => by
        revert q; refine all_cons (N6 _ (by simp [hma])) ?_; intro q hq; exact N6 q hq
      refine hideQ fun Q2 E2 hQ2 hE2 => ?_
      k_steps
      exact hQ2 _ _ ⟨⟨tu, by rw [at_val hwa]⟩, g6, _, h6, _, rfl, Slid.refl .., F6, N6, off, rfl⟩
    · intro ys D g6 h6 tk6 hs S6 B6 F6 N6 off6
      clear F5 N5 Xg Tg
      have Xg := X.keeps B6.stays
      have Tg := T.keeps B6.stays
      have hys : IntsAre ys (bt.1.map fun one => one.getD i 0) := by
        have h1 := Sel.ints (f := fun k => (bt.1.getD k []).getD i 0) hs
        rw [List.size_toArray, hnl.len, map_at (fun one => one.getD i 0) bt.1] at h1
        exact h1
      clear hs
      have j1 : @Ne Nat (L + 1 + 1 + 1) D := off6 (L + 1 + 1 + 1, oX) (.tail _ (.tail _ (.tail _ (.head _))))
      k_steps
      rename_i h7 oX2 F7 N7 dX2
      refine ListComp_J (by with_unfolding_all rfl) (by rfl) (by decide) ?_ (fun _ => rfl)
      k_steps
      rename_i h8 tx8 t8 u8 v8 R8 F8 N8 k8
      clear k8 dX
      refine filt_pure (L := L) (fun j => !decide ((j : Int) ∈ bt.1.map fun one => one.getD i 0)) (source_range (n := 5) (by rfl) F8 N8 R8 (by decide) (by rfl)) (fun q hq => nomatch hq) (by decide) B6 ?_ ?_ (by decide) (by rfl) (by rfl) (by decide)
      · rintro hx I2 C D2 j v ys2 g9 oI oC m₂ h9 tk9 hj ⟨tj, rfl⟩ S9 B9 F9 hC hx2 N10 ne off
        clear F8 N8 R8 Xg Tg
        have Xg := X.keeps B9.stays
        have Tg := T.keeps B9.stays
        refine hideQ fun Q2 E2 hQ2 hE2 => ?_
        k_steps
        exact hQ2 _ _ ⟨by rw [any_mem, Int.zero_add], g9, _, h9, _, rfl, Slid.refl .., F9, N10, off, rfl⟩
      · intro ys2 D2 g9 h9 tk9 hs9 S9 B9 F9 N10 off9
        clear F8 N8 R8 Xg Tg
        have Xg := X.keeps B9.stays
        have Tg := T.keeps B9.stays
        have hys2 : IntsAre ys2 (((List.range 5).map fun (j : Nat) => (j : Int)).filter fun j => !decide (j ∈ bt.1.map fun one => one.getD i 0)) := by
          have h1 := Sel.ints (f := fun j => 0 + (j : Int)) hs9
          have e : (fun (j : Nat) => (0 : Int) + (j : Int)) = fun (j : Nat) => (j : Int) := funext fun j => Int.zero_add _
          rw [e] at h1
          rw [List.filter_map]
          exact h1
        clear hs9
        k_steps
        have hbsz : bv.toArray.size ≤ sizeLine := by
          rw [List.size_toArray, hbl.len, hbs]; exact Nat.le_trans (show i + 1 ≤ 5 by omega) (by decide)
        have b3 : @Ne Nat (L + 1) Ba := b1 _ (.tail _ (.tail _ (.head _)))
        have b4 : @Ne Nat G Ba := b1 _ (.tail _ (.tail _ (.tail _ (.head _))))
        have j2 : @Ne Nat Ba D := off6 (Ba, PySem.W.listOf bv.toArray kb) (.tail _ (.tail _ (.head _)))
        have j3 : @Ne Nat Ba D2 := off9 (Ba, PySem.W.listOf bv.toArray kb) (.tail _ (.tail _ (.tail _ (.head _))))
        have j4 : @Ne Nat (L + 1 + 1 + 1) D2 := off9 (L + 1 + 1 + 1, oX2) (.tail _ (.tail _ (.tail _ (.tail _ (.head _)))))
        have j5 : @Ne Nat (L + 1 + 1) D2 := off9 (L + 1 + 1, oT2) (.tail _ (.tail _ (.tail _ (.tail _ (.tail _ (.head _))))))
        have j6 : @Ne Nat I D2 := off9 (I, o) (.tail _ (.head _))
        refine append_K F9 N10 (upd_of (pre := [(D2, lst ys2), (D, lst ys), (I, o), (LA, PySem.W.listOf lv.toArray kl)]) (fun q hq => ?_) (fun q hq => ?_)) (fun h10 F10 N11 => ?_) hbsz
        · simp only [List.mem_cons, List.mem_append] at hq
          rcases hq with rfl | rfl | rfl | rfl | hq | hq
          · exact n4
          · exact n5
          · exact b3
          · exact b4
          · exact b1 q (.tail _ (.tail _ (.tail _ (.tail _ hq))))
          · exact (hb q hq).1
        · simp only [List.mem_cons, List.not_mem_nil, or_false] at hq
          rcases hq with rfl | rfl | rfl | rfl
          · exact Ne.symm j3
          · exact Ne.symm j2
          · exact Ne.symm i2
          · exact n1
        have hbl10 : NL ((D2, lst ys2) :: bl) (bv ++ [.ref D2]) (bt.2 ++ [((List.range 5).map fun (j : Nat) => (j : Int)).filter fun j => !decide (j ∈ bt.1.map fun one => one.getD i 0)]) := .snoc (hbl.mono fun q hq => .tail _ hq) (.head _) hys2
        have N12 : News g9 L h10 ((I, o) :: (LA, PySem.W.listOf lv.toArray kl) :: (Ba, PySem.W.listOf (bv ++ [Value.ref D2]).toArray (kb + 1)) :: (L + 1 + 1 + 1, oX2) :: (L + 1 + 1, oT2) :: (L + 1, o3) :: (G, PySem.W.listOf gv.toArray kg) :: (gl ++ ((D2, lst ys2) :: bl))) := by
          rw [List.push_toArray] at N11
          refine news_sub N11 fun q hq => ?_
          rcases List.mem_cons.mp hq with rfl | hq
          · exact .tail _ (.tail _ (.head _))
          rcases List.mem_cons.mp hq with rfl | hq
          · exact .tail _ (.tail _ (.tail _ (.head _)))
          rcases List.mem_cons.mp hq with rfl | hq
          · exact .tail _ (.tail _ (.tail _ (.tail _ (.head _))))
          have hq' : q = (D2, lst ys2) ∨ q ∈ (L + 1 + 1 + 1, oX2) :: (L + 1 + 1, oT2) :: (L + 1, o3) :: (G, PySem.W.listOf gv.toArray kg) :: (gl ++ bl) := by
            simp only [List.mem_cons, List.mem_append] at hq ⊢
            rcases hq with h | h | h | h | h | h | h <;> simp [h]
          rcases hq' with rfl | hq'
          · exact .head _
          · exact .tail _ (.tail _ (.tail _ (.tail _ (.tail _ hq'))))
        clear N10 N11 F9 hbsz hys2 hbl
        k_steps
        refine AssignComp_J (by with_unfolding_all rfl) (by with_unfolding_all rfl) (by rfl) (by decide) ?_ (fun _ => rfl)
        k_steps
        refine src_A (L := L) (source_list (k := kl) (by rfl) F10 N12 (.tail _ (.head _))) (fun q hq => by rw [List.mem_singleton.mp hq]; exact .tail _ (.head _))
          (fun j zs l => Sel (fun j v => lv.toArray[j]? = some v) (fun j => ((bt.1.getD j []).getD i 0 == u.getD i 0)) j zs ∧ (j ≤ lv.toArray.size ∧ l = ((I, o) :: (LA, PySem.W.listOf lv.toArray kl) :: (Ba, PySem.W.listOf (bv ++ [Value.ref D2]).toArray (kb + 1)) :: (L + 1 + 1 + 1, oX2) :: (L + 1 + 1, oT2) :: (L + 1, o3) :: (G, PySem.W.listOf gv.toArray kg) :: (gl ++ ((D2, lst ys2) :: bl)))))
          (fun j zs l hj q hq => by rw [List.mem_singleton.mp hq, hj.2.2]; exact .tail _ (.head _)) (fun j zs l hj => Nat.le_trans hj.1.len (Nat.le_trans hj.2.1 (by rw [List.size_toArray, hnl.len]; exact Nat.le_trans hsz (Nat.le_trans hgl (by decide))))) B9 ⟨.zero, Nat.zero_le _, rfl⟩ (turns_filt (L := L) ?turn (by rfl) (by rfl) (by decide)) ?fin (by decide) (by rfl) (by rfl) rfl (by rfl) (by rfl)
        case turn =>
          intro hx I3 C3 D3 k v zs g11 oI oC m₂ led11 h11 tk11 hk hP hK S11 B11 F11 hC hx2 N13 ne off
          obtain ⟨_, rfl⟩ := hK
          clear F10 N12 Xg Tg
          have Xg := X.keeps B11.stays
          have Tg := T.keeps B11.stays
          refine hideG fun G0 k0 => ?_; obtain ⟨a, ua, ka, u2, rfl, hma, hua, hwa⟩ := hnl.at (by simpa using hP); refine k0 ?_; clear k0 G0
          obtain ⟨ta, hget1⟩ := item_of hua (hlen4 u2 (List.mem_of_getElem? hwa)) hi
          obtain ⟨tb, hget2⟩ := item_of hu hu4 hi
          have N14 : News g11 L h11 ((a, PySem.W.listOf ua.toArray ka) :: (ar, PySem.W.listOf us.toArray ku) :: (I3, oI) :: (C3, oC) :: (D3, lst zs) :: ((I, o) :: (LA, PySem.W.listOf lv.toArray kl) :: (Ba, PySem.W.listOf (bv ++ [Value.ref D2]).toArray (kb + 1)) :: (L + 1 + 1 + 1, oX2) :: (L + 1 + 1, oT2) :: (L + 1, o3) :: (G, PySem.W.listOf gv.toArray kg) :: (gl ++ ((D2, lst ys2) :: bl)))) := fun q hq => by
            revert q; refine all_cons (N13 _ (.tail _ (.tail _ (.tail _ (.tail _ (.tail _ (.tail _ (.tail _ (.tail _ (.tail _ (.tail _ (List.mem_append_left _ hma)))))))))))) ?_; refine all_cons (N13 _ (.tail _ (.tail _ (.tail _ (.tail _ (.tail _ (.tail _ (.tail _ (.tail _ (.tail _ (.tail _ (List.mem_append_left _ har)))))))))))) ?_; intro q hq; exact N13 q hq
          refine hideQ fun Q2 E2 hQ2 hE2 => ?_
          k_steps
          exact hQ2 _ _ ⟨by rw [at_val hwa], g11, _, h11, _, rfl, Slid.refl .., F11, N13, off, hk, rfl⟩
        case fin =>
          intro zs D3 g11 led11 h11 tk11 hP1 S11 B11 F11 N13 off11; refine hideG fun G0 k0 => ?_; obtain ⟨hs11, _, rfl⟩ := hP1; refine k0 ?_; clear k0 G0
          clear F10 N12 Xg Tg
          have Xg := X.keeps B11.stays
          have Tg := T.keeps B11.stays
          k_steps
          refine hQ1 _ _ ?_
          show Goes envs g' L _ _ _
          have hnl11 : NL gl zs (bt.1.filter fun one => one.getD i 0 == u.getD i 0) := by
            rw [List.size_toArray] at hs11
            exact hnl.all (q := fun one => one.getD i 0 == u.getD i 0) hs11
          have k1 : @Ne Nat Ba D3 := off11 (Ba, PySem.W.listOf (bv ++ [Value.ref D2]).toArray (kb + 1)) (.tail _ (.tail _ (.head _)))
          have k2 : @Ne Nat (L + 1 + 1 + 1) D3 := off11 (L + 1 + 1 + 1, oX2) (.tail _ (.tail _ (.tail _ (.head _))))
          have k3 : @Ne Nat (L + 1 + 1) D3 := off11 (L + 1 + 1, oT2) (.tail _ (.tail _ (.tail _ (.tail _ (.head _)))))
          have k4 : @Ne Nat I D3 := off11 (I, o) (.head _)
          refine ⟨g11, _, (I, o) :: (D3, lst zs) :: (Ba, PySem.W.listOf (bv ++ [Value.ref D2]).toArray (kb + 1)) :: (L + 1 + 1 + 1, oX2) :: (L + 1 + 1, oT2) :: (L + 1, o3) :: (G, PySem.W.listOf gv.toArray kg) :: (gl ++ ((D2, lst ys2) :: bl)), h11, _, rfl, S6.trans (S9.trans S11), F11, news_sub N13 fun q hq => ?_, _, rfl, ⟨mm, D3, zs, zs.length, bv ++ [Value.ref D2], kb + 1, (D2, lst ys2) :: bl, oT2, oX2, _, _, ?_, dT2, dX2, rfl, ?_, ?_, Ne.symm k1, Ne.symm k2, Ne.symm k3, fun q hq => ?_⟩, fun q hq => ?_⟩
          · revert q; refine all_cons (.tail _ (.head _)) ?_; refine all_cons (.head _) ?_; intro q hq; exact .tail _ (.tail _ (.tail _ hq))
          · funext y
            by_cases e : y = Str.ofString "left"
            · subst e; rfl
            · by_cases e2 : y = Str.ofString "barred"
              · subst e2; rfl
              · simp [e, e2]
          · simp only [byT, hTi]; exact hnl11
          · simp only [byT, hTi]; exact hbl10
          · revert q; refine all_cons (⟨Ne.symm j3, Ne.symm j4, Ne.symm j5⟩) ?_; intro q hq; exact hb q hq
          · rcases List.mem_cons.mp hq with rfl | hq
            · exact Ne.symm k4
            rcases List.mem_cons.mp hq with rfl | hq
            · exact i2
            rcases List.mem_cons.mp hq with rfl | hq
            · exact i3
            rcases List.mem_cons.mp hq with rfl | hq
            · exact i4
            have hq' : q = (D2, lst ys2) ∨ q ∈ (L + 1, o3) :: (G, PySem.W.listOf gv.toArray kg) :: (gl ++ bl) := by
              simp only [List.mem_cons, List.mem_append] at hq ⊢
              rcases hq with h | h | h | h | h <;> simp [h]
            rcases hq' with rfl | hq'
            · exact Ne.symm j6
            · exact hI q (.tail _ (.tail _ (.tail _ (.tail _ hq'))))
  · intro g' m' l h tk' hP1 Sl B' F' N'; refine hideG fun G0 k0 => ?_; obtain ⟨mm, LA, lv, kl, bv, kb, bl, oT, oX, vT, vX, rfl, dT, dX, rfl, hnl, hbl, ne1, ne2, ne3, hb⟩ := hP1; refine k0 ?_; clear k0 G0
    clear F2 N2 F3 N3 Xg Tg k3 R3 lD lB lt
    have Xg := X.keeps B'.stays
    have Tg := T.keeps B'.stays
    dsimp only
    k_steps
    rename_i Ta h6 F6 N8 l6
    show BodyQ g L envs s _ (.ret (.ref Ta)) _
    have hans : AnsAt (.ref Ta) ((Ta, tupOf #[.ref ar, .ref Ba] 0) :: (ar, PySem.W.listOf us.toArray ku) :: (Ba, PySem.W.listOf bv.toArray kb) :: bl) (byN good u).1 (byN good u).2 :=
      ⟨Ta, ar, Ba, us, ku, bv, kb, rfl, .head _, .tail _ (.head _), hu, .tail _ (.tail _ (.head _)), hbl.mono fun q hq => .tail _ (.tail _ (.tail _ hq))⟩
    have hN : News g' L h6 ((G, PySem.W.listOf gv.toArray kg) :: gl ++ ((Ta, tupOf #[.ref ar, .ref Ba] 0) :: (ar, PySem.W.listOf us.toArray ku) :: (Ba, PySem.W.listOf bv.toArray kb) :: bl)) := fun q hq => by
      have hq' : q = (ar, PySem.W.listOf us.toArray ku) ∨ q ∈ (Ta, tupOf #[.ref ar, .ref Ba] 0) :: (LA, PySem.W.listOf lv.toArray kl) :: (Ba, PySem.W.listOf bv.toArray kb) :: (L + 1 + 1 + 1, oX) :: (L + 1 + 1, oT) :: (L + 1, o3) :: (G, PySem.W.listOf gv.toArray kg) :: (gl ++ bl) := by
        simp only [List.cons_append, List.mem_cons, List.mem_append] at hq ⊢
        rcases hq with h | h | h | h | h | h <;> simp [h]
      rcases hq' with rfl | hq'
      · exact N8 _ (.tail _ (.tail _ (.tail _ (.tail _ (.tail _ (.tail _ (.tail _ (List.mem_append_left _ har))))))))
      · exact N8 q hq'
    exact ⟨g', _, (G, PySem.W.listOf gv.toArray kg) :: gl ++ ((Ta, tupOf #[.ref ar, .ref Ba] 0) :: (ar, PySem.W.listOf us.toArray ku) :: (Ba, PySem.W.listOf bv.toArray kb) :: bl), h6, _, rfl, Sl, F6, hN, ⟨(Ta, tupOf #[.ref ar, .ref Ba] 0) :: (ar, PySem.W.listOf us.toArray ku) :: (Ba, PySem.W.listOf bv.toArray kb) :: bl, rfl, hans⟩⟩
end
end Mine
end

section
open PySem PySem.W PyProof.Rows
set_option maxRecDepth 100000
set_option linter.unusedVariables false
namespace Mine
noncomputable def codeN (x : Nat) : Nat := if x = 0 then 0 else if x = 1 then 1 else if [2, 3, 7, 8, 9].contains x then 2 else 3
noncomputable def takesC (c : List Nat) (p q : Nat) : Bool := p == q || c.getD p 3 == 0 || (c.getD p 3 == 1 && c.getD q 3 == 2)
noncomputable def ownC (c : List Nat) (way : List Int) : Bool := way.all fun p => way.find? (fun a => takesC c a.toNat p.toNat) == some p
noncomputable def noWiderC (c : List Nat) (way : List Int) : Bool := (List.range 4).all fun i => ((way.take i).filter fun p => (c.getD (way.getD i 0).toNat 3 != 0 && c.getD p.toNat 3 == 0) || (c.getD (way.getD i 0).toNat 3 == 2 && c.getD p.toNat 3 == 1)) == []
noncomputable def waitsC (c : List Nat) (k : Nat) : List Int := ((List.range 4).filter fun j => decide (j ≠ k) && takesC c k j).map fun (j : Nat) => (j : Int)
noncomputable def tableC (c : List Nat) : List (List Int) := (List.range 4).map (waitsC c)
noncomputable def goodC (c : List Nat) : List (List Int) := (nestsN 4).filter (ownC c)
noncomputable def good2C (c : List Nat) : List (List Int) := (nestsN 4).filter (noWiderC c)
noncomputable def lawOf (good good2 table : List (List Int)) : Bool :=
  good == good2 && runOk table 1 && runOk table (-1) && oneN table 1 == byN good (good.headD []) && oneN table (-1) == byN good (good.getLastD []) && !good.isEmpty
noncomputable def vecs4 (a b : Nat) : List (List Nat) := (List.range 4).flatMap fun c => (List.range 4).filterMap fun d => if [a, b, c, d].count 0 ≤ 1 ∧ [a, b, c, d].count 1 ≤ 1 then some [a, b, c, d] else none
end Mine
end

section
open PySem PySem.W PyProof.Rows
set_option maxRecDepth 100000
set_option linter.unusedVariables false
namespace Mine
theorem takes_tab : ∀ x : Nat, x < 10 → ∀ y : Nat, y < 10 → takesN x y = (x == y || codeN x == 0 || (codeN x == 1 && codeN y == 2)) := by decide +kernel
theorem wider_tab : ∀ x : Nat, x < 10 → ∀ y : Nat, y < 10 → decide ((y : Int) ∈ widerOf (x : Int)) = ((codeN x != 0 && codeN y == 0) || (codeN x == 2 && codeN y == 1)) := by decide +kernel
theorem taker_tab : ∀ x : Nat, x < 10 → ∀ y : Nat, y < 10 → (taker [(x : Int), 0] y == some (x : Int)) = takesN x y := by decide +kernel
section
variable {four : List Int} {c : List Nat} {f : Nat → Nat}
theorem key_takes (hf : ∀ p < 4, f p < 10) (hinj : ∀ p < 4, ∀ q < 4, f p = f q → p = q) (hc : ∀ p < 4, c.getD p 3 = codeN (f p)) {p q : Nat} (hp : p < 4) (hq : q < 4) : takesN (f p) (f q) = takesC c p q := by
  rw [takes_tab _ (hf p hp) _ (hf q hq)]
  unfold takesC
  rw [hc p hp, hc q hq]
  have : (f p == f q) = (p == q) := by
    rw [Bool.eq_iff_iff, beq_iff_eq, beq_iff_eq]
    exact ⟨hinj p hp q hq, fun e => by rw [e]⟩
  rw [this]
theorem find_congr {α : Type} {p q : α → Bool} : ∀ {l : List α}, (∀ a ∈ l, p a = q a) → l.find? p = l.find? q
  | [], _ => rfl
  | a :: l, h => by
    rw [List.find?_cons, List.find?_cons, h a (.head _), find_congr fun b hb => h b (.tail _ hb)]
theorem all_congr {α : Type} {p q : α → Bool} : ∀ {l : List α}, (∀ a ∈ l, p a = q a) → l.all p = l.all q
  | [], _ => rfl
  | a :: l, h => by rw [List.all_cons, List.all_cons, h a (.head _), all_congr fun b hb => h b (.tail _ hb)]
theorem own_code (hf : ∀ p < 4, f p < 10) (hinj : ∀ p < 4, ∀ q < 4, f p = f q → p = q) (hc : ∀ p < 4, c.getD p 3 = codeN (f p)) (hv : ∀ p < 4, four.getD p 0 = (f p : Int)) {way : List Int} (hw : ∀ x ∈ way, 0 ≤ x ∧ x ≤ 3) :
    own (way.map fun k => four.getD k.toNat 0) = ownC c way := by
  unfold own ownC
  rw [List.all_map]
  refine all_congr fun p hp => ?_
  have hp4 : p.toNat < 4 := by have := hw p hp; omega
  have e : taker (way.map fun k => four.getD k.toNat 0) (four.getD p.toNat 0).toNat = (way.find? fun a => takesC c a.toNat p.toNat).map fun k => four.getD k.toNat 0 := by
    unfold taker
    rw [List.find?_map]
    congr 1
    refine find_congr fun a ha => ?_
    have ha4 : a.toNat < 4 := by have := hw a ha; omega
    show takesN (four.getD a.toNat 0).toNat (four.getD p.toNat 0).toNat = _
    rw [hv _ ha4, hv _ hp4, Int.toNat_natCast, Int.toNat_natCast]
    exact key_takes hf hinj hc ha4 hp4
  show (taker (way.map fun k => four.getD k.toNat 0) (four.getD p.toNat 0).toNat == some (four.getD p.toNat 0)) = _
  rw [e]
  cases ho : way.find? fun a => takesC c a.toNat p.toNat with
  | none => rfl
  | some a =>
    have ham := List.mem_of_find?_eq_some ho
    have ha4 : a.toNat < 4 := by have := hw a ham; omega
    rw [Option.map_some, Bool.eq_iff_iff, beq_iff_eq, beq_iff_eq, Option.some.injEq, Option.some.injEq, hv _ ha4, hv _ hp4]
    constructor
    · intro h
      have e1 := hinj _ ha4 _ hp4 (by omega)
      exact (Int.toNat_of_nonneg (hw a ham).1).symm.trans ((congrArg (fun n : Nat => (n : Int)) e1).trans (Int.toNat_of_nonneg (hw p hp).1))
    · intro h; rw [h]
theorem noWider_code (hf : ∀ p < 4, f p < 10) (hc : ∀ p < 4, c.getD p 3 = codeN (f p)) (hv : ∀ p < 4, four.getD p 0 = (f p : Int)) {way : List Int} (hw : ∀ x ∈ way, 0 ≤ x ∧ x ≤ 3) (hl : way.length = 4) :
    noWider (way.map fun k => four.getD k.toNat 0) = noWiderC c way := by
  unfold noWider noWiderC
  refine all_congr fun i hi => ?_
  have hi4 : i < 4 := List.mem_range.mp hi
  unfold noWiderAt
  have hgi : way.getD i 0 ∈ way := by rw [List.getD_eq_getElem?_getD, List.getElem?_eq_getElem (by omega)]; exact List.getElem_mem _
  have hg4 : (way.getD i 0).toNat < 4 := by have := hw _ hgi; omega
  have e1 : (way.map fun k => four.getD k.toNat 0).getD i 0 = four.getD (way.getD i 0).toNat 0 := by
    rw [List.getD_eq_getElem?_getD, List.getElem?_map, List.getD_eq_getElem?_getD (l := way), List.getElem?_eq_getElem (by omega : i < way.length)]; rfl
  rw [e1, ← List.map_take, List.filter_map]
  have e2 : ((way.take i).filter ((fun a => decide (a ∈ widerOf (four.getD (way.getD i 0).toNat 0))) ∘ fun k => four.getD k.toNat 0)) = (way.take i).filter fun p => (c.getD (way.getD i 0).toNat 3 != 0 && c.getD p.toNat 3 == 0) || (c.getD (way.getD i 0).toNat 3 == 2 && c.getD p.toNat 3 == 1) := by
    refine List.filter_congr fun p hp => ?_
    have hp4 : p.toNat < 4 := by have := hw p (List.mem_of_mem_take hp); omega
    show decide (four.getD p.toNat 0 ∈ widerOf (four.getD (way.getD i 0).toNat 0)) = _
    rw [hv _ hp4, hv _ hg4, wider_tab _ (hf _ hg4) _ (hf _ hp4), hc _ hp4, hc _ hg4]
  rw [e2]
  cases ((way.take i).filter fun p => (c.getD (way.getD i 0).toNat 3 != 0 && c.getD p.toNat 3 == 0) || (c.getD (way.getD i 0).toNat 3 == 2 && c.getD p.toNat 3 == 1)) <;> rfl
theorem waits_code (hf : ∀ p < 4, f p < 10) (hinj : ∀ p < 4, ∀ q < 4, f p = f q → p = q) (hc : ∀ p < 4, c.getD p 3 = codeN (f p)) (hv : ∀ p < 4, four.getD p 0 = (f p : Int)) {k : Nat} (hk : k < 4) : waitsN four k = waitsC c k := by
  unfold waitsN waitsC
  congr 1
  refine List.filter_congr fun j hj => ?_
  have hj4 : j < 4 := List.mem_range.mp hj
  rw [hv _ hk, hv _ hj4, Int.toNat_natCast, taker_tab _ (hf _ hk) _ (hf _ hj4), key_takes hf hinj hc hk hj4]
theorem table_code (hf : ∀ p < 4, f p < 10) (hinj : ∀ p < 4, ∀ q < 4, f p = f q → p = q) (hc : ∀ p < 4, c.getD p 3 = codeN (f p)) (hv : ∀ p < 4, four.getD p 0 = (f p : Int)) : tableN four = tableC c :=
  List.map_congr_left fun k hk => waits_code hf hinj hc hv (List.mem_range.mp hk)
theorem nests_rng : ∀ w ∈ nestsN 4, w.length = 4 ∧ ∀ x ∈ w, 0 ≤ x ∧ x ≤ 3 := by decide +kernel
theorem good_code (hf : ∀ p < 4, f p < 10) (hinj : ∀ p < 4, ∀ q < 4, f p = f q → p = q) (hc : ∀ p < 4, c.getD p 3 = codeN (f p)) (hv : ∀ p < 4, four.getD p 0 = (f p : Int)) : goodN four = goodC c ∧ good2N four = good2C c :=
  ⟨List.filter_congr fun w hw => own_code hf hinj hc hv (nests_rng w hw).2, List.filter_congr fun w hw => noWider_code hf hc hv (nests_rng w hw).2 (nests_rng w hw).1⟩
end
end Mine
end

section
open PySem PySem.W PyProof.Rows
set_option maxRecDepth 100000
set_option linter.unusedVariables false
namespace Mine
theorem vec_00 : (vecs4 0 0).all (fun c => lawOf (goodC c) (good2C c) (tableC c)) = true := by decide +kernel
theorem vec_01 : (vecs4 0 1).all (fun c => lawOf (goodC c) (good2C c) (tableC c)) = true := by decide +kernel
theorem vec_02 : (vecs4 0 2).all (fun c => lawOf (goodC c) (good2C c) (tableC c)) = true := by decide +kernel
theorem vec_03 : (vecs4 0 3).all (fun c => lawOf (goodC c) (good2C c) (tableC c)) = true := by decide +kernel
theorem vec_10 : (vecs4 1 0).all (fun c => lawOf (goodC c) (good2C c) (tableC c)) = true := by decide +kernel
theorem vec_11 : (vecs4 1 1).all (fun c => lawOf (goodC c) (good2C c) (tableC c)) = true := by decide +kernel
theorem vec_12 : (vecs4 1 2).all (fun c => lawOf (goodC c) (good2C c) (tableC c)) = true := by decide +kernel
theorem vec_13 : (vecs4 1 3).all (fun c => lawOf (goodC c) (good2C c) (tableC c)) = true := by decide +kernel
theorem vec_20 : (vecs4 2 0).all (fun c => lawOf (goodC c) (good2C c) (tableC c)) = true := by decide +kernel
theorem vec_21 : (vecs4 2 1).all (fun c => lawOf (goodC c) (good2C c) (tableC c)) = true := by decide +kernel
theorem vec_22 : (vecs4 2 2).all (fun c => lawOf (goodC c) (good2C c) (tableC c)) = true := by decide +kernel
theorem vec_23 : (vecs4 2 3).all (fun c => lawOf (goodC c) (good2C c) (tableC c)) = true := by decide +kernel
theorem vec_30 : (vecs4 3 0).all (fun c => lawOf (goodC c) (good2C c) (tableC c)) = true := by decide +kernel
theorem vec_31 : (vecs4 3 1).all (fun c => lawOf (goodC c) (good2C c) (tableC c)) = true := by decide +kernel
theorem vec_32 : (vecs4 3 2).all (fun c => lawOf (goodC c) (good2C c) (tableC c)) = true := by decide +kernel
theorem vec_33 : (vecs4 3 3).all (fun c => lawOf (goodC c) (good2C c) (tableC c)) = true := by decide +kernel
end Mine
end

section
open PySem PySem.W PyProof.Rows
set_option maxRecDepth 100000
set_option linter.unusedVariables false
namespace Mine
theorem code_lt (x : Nat) : codeN x < 4 := by unfold codeN; split <;> (try split) <;> (try split) <;> omega
theorem code_0 {x : Nat} (h : codeN x = 0) : x = 0 := by
  unfold codeN at h
  split at h
  · assumption
  · split at h
    · cases h
    · split at h <;> cases h
theorem code_1 {x : Nat} (h : codeN x = 1) : x = 1 := by
  unfold codeN at h
  split at h
  · cases h
  · split at h
    · assumption
    · split at h <;> cases h
theorem vecs_all (a b : Nat) (ha : a < 4) (hb : b < 4) : (vecs4 a b).all (fun c => lawOf (goodC c) (good2C c) (tableC c)) = true :=
  all4 (P := fun a => ∀ b < 4, (vecs4 a b).all (fun c => lawOf (goodC c) (good2C c) (tableC c)) = true) (all4 vec_00 vec_01 vec_02 vec_03) (all4 vec_10 vec_11 vec_12 vec_13) (all4 vec_20 vec_21 vec_22 vec_23) (all4 vec_30 vec_31 vec_32 vec_33) a ha b hb
theorem count_le {v : Nat} {f : Nat → Nat} (hv : ∀ x, codeN x = v → x = v) {a b c d : Nat} (h1 : a ≠ b) (h2 : a ≠ c) (h3 : a ≠ d) (h4 : b ≠ c) (h5 : b ≠ d) (h6 : c ≠ d) : [codeN a, codeN b, codeN c, codeN d].count v ≤ 1 := by
  simp only [List.count_cons, List.count_nil, beq_iff_eq]
  by_cases ea : codeN a = v
  · have := hv _ ea
    have eb : codeN b ≠ v := fun e => h1 (by rw [this, hv _ e])
    have ec : codeN c ≠ v := fun e => h2 (by rw [this, hv _ e])
    have ed : codeN d ≠ v := fun e => h3 (by rw [this, hv _ e])
    simp [ea, eb, ec, ed]
  · by_cases eb : codeN b = v
    · have := hv _ eb
      have ec : codeN c ≠ v := fun e => h4 (by rw [this, hv _ e])
      have ed : codeN d ≠ v := fun e => h5 (by rw [this, hv _ e])
      simp [ea, eb, ec, ed]
    · by_cases ec : codeN c = v
      · have := hv _ ec
        have ed : codeN d ≠ v := fun e => h6 (by rw [this, hv _ e])
        simp [ea, eb, ec, ed]
      · simp only [ea, eb, ec, if_false]
        split <;> omega
theorem toNat_ne {a b : Int} (h : a ≠ b) (ha : 0 ≤ a ∧ a ≤ 9) (hb : 0 ≤ b ∧ b ≤ 9) : a.toNat ≠ b.toNat := fun e => h ((Int.toNat_of_nonneg ha.1).symm.trans ((congrArg (fun n : Nat => (n : Int)) e).trans (Int.toNat_of_nonneg hb.1)))
theorem toNat_lt {a : Int} (ha : 0 ≤ a ∧ a ≤ 9) : a.toNat < 10 := by omega
theorem toNat_eq {a : Int} (ha : 0 ≤ a ∧ a ≤ 9) : a = (a.toNat : Int) := (Int.toNat_of_nonneg ha.1).symm
theorem law_plain {a b c d : Int} (hnd : [a, b, c, d].Nodup) (hr : ∀ x ∈ [a, b, c, d], 0 ≤ x ∧ x ≤ 9) : lawOf (goodN [a, b, c, d]) (good2N [a, b, c, d]) (tableN [a, b, c, d]) = true := by
  have ra := hr a (by simp)
  have rb := hr b (by simp)
  have rc := hr c (by simp)
  have rd := hr d (by simp)
  simp only [List.nodup_cons, List.mem_cons, List.not_mem_nil, or_false, not_or, List.nodup_nil, and_true, not_false_eq_true] at hnd
  obtain ⟨⟨n1, n2, n3⟩, ⟨n4, n5⟩, n6⟩ := hnd
  have hf : ∀ p < 4, (fun p => ([a, b, c, d].getD p 0).toNat) p < 10 := all4 (toNat_lt ra) (toNat_lt rb) (toNat_lt rc) (toNat_lt rd)
  have hv : ∀ p < 4, [a, b, c, d].getD p 0 = (((fun p => ([a, b, c, d].getD p 0).toNat) p : Nat) : Int) := all4 (toNat_eq ra) (toNat_eq rb) (toNat_eq rc) (toNat_eq rd)
  have m1 := toNat_ne n1 ra rb
  have m2 := toNat_ne n2 ra rc
  have m3 := toNat_ne n3 ra rd
  have m4 := toNat_ne n4 rb rc
  have m5 := toNat_ne n5 rb rd
  have m6 := toNat_ne n6 rc rd
  have hinj : ∀ p < 4, ∀ q < 4, (fun p => ([a, b, c, d].getD p 0).toNat) p = (fun p => ([a, b, c, d].getD p 0).toNat) q → p = q :=
    all4 (all4 (fun _ => rfl) (fun h => absurd h m1) (fun h => absurd h m2) (fun h => absurd h m3))
      (all4 (fun h => absurd h.symm m1) (fun _ => rfl) (fun h => absurd h m4) (fun h => absurd h m5))
      (all4 (fun h => absurd h.symm m2) (fun h => absurd h.symm m4) (fun _ => rfl) (fun h => absurd h m6))
      (all4 (fun h => absurd h.symm m3) (fun h => absurd h.symm m5) (fun h => absurd h.symm m6) (fun _ => rfl))
  have hc : ∀ p < 4, [codeN a.toNat, codeN b.toNat, codeN c.toNat, codeN d.toNat].getD p 3 = codeN ((fun p => ([a, b, c, d].getD p 0).toNat) p) := all4 rfl rfl rfl rfl
  obtain ⟨g1, g2⟩ := good_code (four := [a, b, c, d]) hf hinj hc hv
  rw [g1, g2, table_code (four := [a, b, c, d]) hf hinj hc hv]
  refine List.all_eq_true.mp (vecs_all (codeN a.toNat) (codeN b.toNat) (code_lt _) (code_lt _)) _ ?_
  refine List.mem_flatMap.mpr ⟨codeN c.toNat, List.mem_range.mpr (code_lt _), List.mem_filterMap.mpr ⟨codeN d.toNat, List.mem_range.mpr (code_lt _), ?_⟩⟩
  rw [if_pos]
  exact ⟨count_le (f := id) (fun x => code_0) m1 m2 m3 m4 m5 m6, count_le (f := id) (fun x => code_1) m1 m2 m3 m4 m5 m6⟩
end Mine
end

section
open PySem PySem.Spec PySem.Calls PySem.W PyProof.Rows PyProof.Rows.LCg PySem.SeqAt
set_option Elab.async false
set_option maxRecDepth 100000
set_option maxHeartbeats 400000
set_option linter.unusedVariables false
namespace Mine
noncomputable abbrev intsD (l : List Int) : PyData := .list (l.map .int)
noncomputable abbrev listsD (ws : List (List Int)) : PyData := .list (ws.map intsD)
noncomputable def ansD (nest : List Int) (barred : List (List Int)) : PyData := .tuple [intsD nest, listsD barred]
theorem canAll (ws : List (List Int)) : PyData.canLayAll0 (ws.map intsD) = true := by
  induction ws with
  | nil => rfl
  | cons w ws ih => rw [List.map_cons, PyData.canLayAll0, ih, PyData.canLay0, ke_canLayAll0]; rfl
theorem depAll (ws : List (List Int)) : PyData.depthAll (ws.map intsD) ≤ 1 := by
  induction ws with
  | nil => exact Nat.zero_le _
  | cons w ws ih =>
    rw [List.map_cons, PyData.depthAll, PyData.depth, ke_depthAll]
    exact Nat.max_le.mpr ⟨by omega, ih⟩
theorem lists_shaped (ws : List (List Int)) : SeqAt.shaped (listsD ws) = true := by
  unfold SeqAt.shaped
  rw [PyData.canLay0, canAll, PyData.depth, Bool.true_and]
  have := depAll ws
  exact decide_eq_true (by omega)
theorem ans_shaped (nest : List Int) (barred : List (List Int)) : SeqAt.shaped (ansD nest barred) = true := by
  unfold SeqAt.shaped ansD
  simp only [PyData.canLay0, PyData.canLayAll0, PyData.depth, PyData.depthAll, canAll, ke_canLayAll0, ke_depthAll, Bool.and_true, Bool.true_and]
  have := depAll barred
  exact decide_eq_true (by omega)
theorem eqv_lists (ws : List (List Int)) : PyData.eqv (listsD ws) (listsD ws) = true := eqv_refl _ (by rw [PyData.canLay0]; exact canAll ws)
theorem eqv_ans (nest : List Int) (barred : List (List Int)) : PyData.eqv (ansD nest barred) (ansD nest barred) = true :=
  eqv_refl _ (by simp only [ansD, PyData.canLay0, PyData.canLayAll0, canAll, ke_canLayAll0, Bool.and_true])
theorem readsAll_app {h : Heap} {vs us : List Value} {ds es : List PyData} {as bs : List Addr} (x : ReadsAll h vs ds as) (y : ReadsAll h us es bs) : ∃ cs, ReadsAll h (vs ++ us) (ds ++ es) cs := by
  induction vs generalizing ds as with
  | nil => cases x; exact ⟨bs, y⟩
  | cons v vs ih => cases x with
    | cons h1 h2 => obtain ⟨cs, hc⟩ := ih h2; exact ⟨_, .cons h1 hc⟩
theorem reads_ints {g h : Heap} {L a : Addr} {l : List (Addr × Obj)} {us : List Value} {k : Nat} {u : List Int} (N : News g L h l) (hm : (a, W.listOf us.toArray k) ∈ l) (hu : IntsAre us u) : Reads h (.ref a) (intsD u) [a] :=
  reads_newData ⟨_, (N _ hm).1, rfl, _, rfl⟩ (ke_carried hu)
theorem reads_NL {g h : Heap} {L : Addr} {l : List (Addr × Obj)} (N : News g L h l) : ∀ {vs : List Value} {ws : List (List Int)}, NL l vs ws → ∃ as, ReadsAll h vs (ws.map intsD) as
  | _, _, .nil => ⟨_, .nil⟩
  | _, _, .snoc r m hu => by
    obtain ⟨as, ha⟩ := reads_NL N r
    rw [List.map_append]
    exact readsAll_app ha (.cons (reads_ints N m hu) .nil)
theorem reads_lists {g h : Heap} {L a : Addr} {l : List (Addr × Obj)} {vs : List Value} {k : Nat} {ws : List (List Int)} (N : News g L h l) (hm : (a, W.listOf vs.toArray k) ∈ l) (hn : NL l vs ws) : ∃ as, Reads h (.ref a) (listsD ws) as := by
  obtain ⟨as, ha⟩ := reads_NL N hn
  exact ⟨_, reads_list_at (N _ hm).1 rfl rfl ha⟩
theorem reads_ans {g h : Heap} {L : Addr} {l : List (Addr × Obj)} {v : Value} {nest : List Int} {barred : List (List Int)} (N : News g L h l) (hA : AnsAt v l nest barred) : ∃ as, Reads h v (ansD nest barred) as := by
  obtain ⟨Ta, Na, Ba, nv, kn, bv, kb, rfl, h1, h2, h3, h4, h5⟩ := hA
  obtain ⟨bs, hb⟩ := reads_lists N h4 h5
  exact ⟨_, reads_tuple_at (N _ h1).1 rfl rfl (.cons (reads_ints N h2 h3) (.cons hb .nil))⟩
theorem AnsAt.mono {v : Value} {l l' : List (Addr × Obj)} {nest : List Int} {barred : List (List Int)} (hs : ∀ q ∈ l, q ∈ l') (hA : AnsAt v l nest barred) : AnsAt v l' nest barred := by
  obtain ⟨Ta, Na, Ba, nv, kn, bv, kb, e, h1, h2, h3, h4, h5⟩ := hA
  exact ⟨Ta, Na, Ba, nv, kn, bv, kb, e, hs _ h1, hs _ h2, h3, hs _ h4, h5.mono hs⟩
end Mine
end

section
open PySem PySem.Spec PySem.Calls PySem.W PyProof.Rows PyProof.Rows.LCg PySem.SeqAt
set_option Elab.async false
set_option maxRecDepth 100000
set_option maxHeartbeats 400000
set_option linter.unusedVariables false
namespace Mine
structure LawF (good table : List (List Int)) : Prop where
  r1 : runOk table 1 = true
  r2 : runOk table (-1) = true
  q1 : oneN table 1 = byN good (good.headD [])
  q2 : oneN table (-1) = byN good (good.getLastD [])
theorem law_facts {good good2 table : List (List Int)} (h : lawOf good good2 table = true) : good = good2 ∧ good ≠ [] ∧ LawF good table := by
  unfold lawOf at h
  rw [Bool.and_eq_true, Bool.and_eq_true, Bool.and_eq_true, Bool.and_eq_true, Bool.and_eq_true] at h
  refine hideG fun G0 k0 => ?_; obtain ⟨⟨⟨⟨⟨h1, h2⟩, h3⟩, h4⟩, h5⟩, h6⟩ := h; refine k0 ?_; clear k0 G0
  refine ⟨eq_of_beq h1, fun e => ?_, h2, h3, eq_of_beq h4, eq_of_beq h5⟩
  rw [e] at h6
  cases h6
theorem good_all (four : List Int) : ∀ x ∈ goodN four, x.length = 4 := fun x hx => (nests_rng x (List.mem_filter.mp hx).1).1
theorem good_len (four : List Int) : (goodN four).length ≤ 24 := Nat.le_trans (List.length_filter_le ..) (nests_len 4 (by decide))
theorem NL.head {l : List (Addr × Obj)} {vs : List Value} {ws : List (List Int)} (h : NL l vs ws) (hne : ws ≠ []) : ∃ a us k, vs.toArray[(0 : Int).toNat]? = some (.ref a) ∧ (a, PySem.W.listOf us.toArray k) ∈ l ∧ IntsAre us (ws.headD []) := by
  have hl := h.len
  match ws, vs, hne, hl, h with
  | w :: ws, v :: vs, _, _, h =>
    refine hideG fun G0 k0 => ?_; obtain ⟨a, us, k, u, eq1, hm, hu, hw⟩ := h.at (i := 0) (v := v) rfl; refine k0 ?_; clear k0 G0; subst eq1
    cases hw
    exact ⟨a, us, k, rfl, hm, hu⟩
theorem NL.last {l : List (Addr × Obj)} {vs : List Value} {ws : List (List Int)} (h : NL l vs ws) (hne : ws ≠ []) : ∃ p a us k, vs = p ++ [.ref a] ∧ (a, PySem.W.listOf us.toArray k) ∈ l ∧ IntsAre us (ws.getLastD []) := by
  cases h with
  | nil => exact absurd rfl hne
  | snoc r m hu => exact ⟨_, _, _, _, rfl, m, by simpa using hu⟩
theorem head_mem {ws : List (List Int)} (hne : ws ≠ []) : ws.headD [] ∈ ws := by
  cases ws with
  | nil => exact absurd rfl hne
  | cons w ws => exact .head _
theorem last_mem {ws : List (List Int)} (hne : ws ≠ []) : ws.getLastD [] ∈ ws := by
  rw [List.getLastD_eq_getLast?, List.getLast?_eq_some_getLast hne]
  exact List.getLast_mem hne
theorem NL.allF {l : List (Addr × Obj)} {wv gv : List Value} {ns : List (List Int)} {F : List Int → Bool} {m : Int → Int} (h : NL l wv ns) (hs : Sel (fun j v => wv.toArray[j]? = some v) (fun j => F ((ns.getD j []).map m)) wv.toArray.size gv) : NL l gv (ns.filter fun way => F (way.map m)) := by
  rw [List.size_toArray] at hs
  exact h.all (q := fun way => F (way.map m)) hs
theorem NL.good {l : List (Addr × Obj)} {wv gv : List Value} {four : List Int} (h : NL l wv (nestsN 4)) (hs : Sel (fun j v => wv.toArray[j]? = some v) (fun j => own (((nestsN 4).getD j []).map fun k => four.getD k.toNat 0)) wv.toArray.size gv) : NL l gv (goodN four) := by
  unfold goodN
  exact NL.allF (F := own) (m := fun k => four.getD k.toNat 0) h hs
theorem NL.good2 {l : List (Addr × Obj)} {wv gv : List Value} {four : List Int} (h : NL l wv (nestsN 4)) (hs : Sel (fun j v => wv.toArray[j]? = some v) (fun j => noWider (((nestsN 4).getD j []).map fun k => four.getD k.toNat 0)) wv.toArray.size gv) : NL l gv (good2N four) := by
  unfold good2N
  exact NL.allF (F := noWider) (m := fun k => four.getD k.toNat 0) h hs
end Mine
end

section
open PySem PySem.Spec PySem.Calls PySem.W PyProof.Rows PyProof.Rows.LCg
set_option Elab.async false
set_option maxRecDepth 100000
set_option maxHeartbeats 8000000
set_option linter.unusedVariables false
namespace Mine
section
variable {w : World} {base : Heap} {p : Program} {loose : List Str} {mean : ExcName → Option Value} {mg mb : Str → Option Value}

theorem own_con (X : (k0.heap_1 w.params).In base) (T : Top p loose mean mg mb base) (la lf : Addr) (n n2 : Nat) (fs : Nat → Addr) (led : List (Addr × Obj)) (a1 a2 a3 a4 : Int) (t1 t2 t3 t4 : Tok) (hx : Errs fs led) (b1 : 0 ≤ a1 ∧ a1 ≤ 9) (b2 : 0 ≤ a2 ∧ a2 ≤ 9) (b3 : 0 ≤ a3 ∧ a3 ≤ 9) (b4 : 0 ≤ a4 ∧ a4 ≤ 9) (hlf : lf ≠ la) :
    Con w base 342 [.ref la, .ref lf] 6 ((la, W.listOf #[.int a1 t1, .int a2 t2, .int a3 t3, .int a4 t4] n) :: (lf, W.listOf (errArr fs) n2) :: led) (fun v l => v = .bool (own [a1, a2, a3, a4]) ∧ ∃ led', l = (la, W.listOf #[.int a1 t1, .int a2 t2, .int a3 t3, .int a4 t4] n) :: (lf, W.listOf (errArr fs) n2) :: led' ∧ Errs fs led') (fun _ _ => False) := by
  k_with_none
  k_with "walk1" => first | (with_reducible refine Nx.next (by assumption) _ ?_; (try clear hN); (try clear Qc)) | (with_reducible refine Nx.ret (by assumption) ?_; (try clear hN); (try clear Qc)) | (with_reducible refine Nx.brk (by assumption) ?_; (try clear hN); (try clear Qc)) | (with_reducible refine Nx.cont (by assumption) ?_; (try clear hN); (try clear Qc))
  k_with "execs cons" => (refine execs_h fun Qc hN => ?_)
  k_with "con_of" => (k_dflt ((case ho => k_is); (case hcd => k_is); (case hb => exact fun _ => BindsTo.of_eq rfl); (case hl => exact locs rfl); (case c2 => exact rfl); (case c3 => exact rfl); (case c4 => exact rfl); (case c5 => decide)))
  k_with "exec For Name Name cons nil" => refine here ?_
  k_with "call ref" => refine here ?_
  k_with "subscriptTail" => (k_dflt (refine' sub_int ?N ?m ?h0 ?h1 ?hx ?_ ?hs; (case N => k_asm); (case m => k_mem); (case h0 => omega); (case h1 => omega); (case hx => exact errArr_at _ (by assumption)); (case hs => with_unfolding_all rfl); k_whole))
  refine' Con.of (binds := [(Str.ofString "arms", .ref la), (Str.ofString "faults", .ref lf)]) X T ?ho ?hcd ?hb ?hl ?h ?c2 ?c3 ?c4 ?c5
  walk_at "con_of"
  intro dp envs gd un s g L h₁ tk hdp hun B Xg Tg F N hlt
  try k_fold
  k_steps
  refine for_E ?_ (fun _ => rfl)
  k_steps
  refine for_L (source_list (by rfl) F N (.head _)) (fun q hq => by rw [List.mem_singleton.mp hq]; exact .head _) (fun i m' l => (∃ o, m' = fun y => if y = Str.ofString "arm" then o else List.lookup y [(Str.ofString "arms", Value.ref la), (Str.ofString "faults", Value.ref lf)].reverse) ∧ (∃ led', l = (la, W.listOf #[.int a1 t1, .int a2 t2, .int a3 t3, .int a4 t4] n) :: (lf, W.listOf (errArr fs) n2) :: led' ∧ Errs fs led') ∧ (([a1, a2, a3, a4].take i).all fun a => taker [a1, a2, a3, a4] a.toNat == some a) = true) ?_ B ?_ ?_ ?_ rfl rfl rfl
  · intro i m' l hP1 q hq; refine hideG fun G0 k0 => ?_; obtain ⟨_, ⟨led', rfl, _⟩, _⟩ := hP1; refine k0 ?_; clear k0 G0
    rw [List.mem_singleton.mp hq]; exact .head _
  · refine ⟨⟨none, funext fun y => ?_⟩, ⟨led, rfl, hx⟩, rfl⟩
    by_cases e : y = Str.ofString "arm"
    · subst e; rfl
    · simp [e]
  · intro I i v g' m' l o h tk' hi hP hP1 Sl B' F' N' hI; refine hideG fun G0 k0 => ?_; obtain ⟨⟨ov, rfl⟩, ⟨led', rfl, hx'⟩, hall⟩ := hP1; refine k0 ?_; clear k0 G0
    clear F N hlt Xg Tg B
    have Xg := X.keeps B'.stays
    have Tg := T.keeps B'.stays
    have hv : ∃ a t, v = .int a t ∧ [a1, a2, a3, a4][i]? = some a ∧ 0 ≤ a ∧ a ≤ 9 := by
      have hi4 : i < 4 := hi
      rcases or4 i (by first | assumption | omega) with rfl | rfl | rfl | rfl
      · cases hP; exact ⟨_, _, rfl, rfl, b1⟩
      · cases hP; exact ⟨_, _, rfl, rfl, b2⟩
      · cases hP; exact ⟨_, _, rfl, rfl, b3⟩
      · cases hP; exact ⟨_, _, rfl, rfl, b4⟩
    refine hideG fun G0 k0 => ?_; obtain ⟨a, ta, rfl, hai, ba⟩ := hv; refine k0 ?_; clear k0 G0
    try k_fold
    k_steps
    have hi4 : i < 4 := hi
    have tka : taker [a1, a2, a3, a4] a.toNat ≠ none := by
      unfold taker
      intro e
      rw [List.find?_eq_none] at e
      exact e a (List.mem_of_getElem? hai) (by simp [takesN])
    obtain ⟨b, hb⟩ := Option.ne_none_iff_exists'.mp tka
    refine taker_use (fun l x => taker4 X T _ _ _ l a.toNat _ _ _ _ _ _ _ _ (by omega) x b1 b2 b3 b4) hb (by omega) hx' B' F' N' (.tail _ (.head _)) (fun q hq => .tail _ (.tail _ (.tail _ hq))) (fun vs h => by cases h) (others := [(I, o), (lf, W.listOf (errArr fs) n2)]) ?_ rfl rfl ?_ ?_ ?_
    · intro q hq
      rcases List.mem_cons.mp hq with rfl | hq
      · exact ⟨.head _, Ne.symm (hI _ (.head _)), fun p hp => hI p (.tail _ (.tail _ hp))⟩
      · rw [List.mem_singleton.mp hq]
        exact ⟨.tail _ (.tail _ (.head _)), hlf, hx'.ne N' (fun q hq => .tail _ (.tail _ (.tail _ hq))) (.tail _ (.tail _ (.head _))) (fun vs h => by cases h)⟩
    · omega
    · omega
    · intro t led'' g1 h1 tk1 hx'' S1 B1 F1 N1 ap
      clear N' F' Xg Tg B'
      have Xg := X.keeps B1.stays
      have Tg := T.keeps B1.stays
      k_steps
      · rename_i hne
        show BodyQ g L envs s _ (.ret (.bool false)) _
        refine ⟨g1, _, _, h1, _, rfl, Sl.trans S1, F1, news_sub N1 (b := (la, W.listOf #[.int a1 t1, .int a2 t2, .int a3 t3, .int a4 t4] n) :: (lf, W.listOf (errArr fs) n2) :: led'') (fun q hq => ?_), ?_, led'', rfl, hx''⟩
        · simp only [List.mem_cons, List.mem_append] at hq ⊢
          rcases hq with e | e | e
          · exact .inl e
          · exact .inr (.inl (.inr (.inl e)))
          · exact .inr (.inr e)
        · have hf : own [a1, a2, a3, a4] = false := by
            rw [← Bool.not_eq_true]
            intro ht
            have := List.all_eq_true.mp ht a (List.mem_of_getElem? hai)
            rw [hb] at this
            have : b = a := by simpa using this
            exact hne this
          show Value.bool false = .bool (own [a1, a2, a3, a4])
          rw [hf]
      · rename_i hne
        show Goes envs g' L _ _ _
        refine ⟨g1, _, (I, o) :: (la, W.listOf #[.int a1 t1, .int a2 t2, .int a3 t3, .int a4 t4] n) :: (lf, W.listOf (errArr fs) n2) :: led'', h1, _, rfl, S1, F1, news_sub N1 (fun q hq => ?_), _, rfl, ⟨⟨some (.int a ta), ?_⟩, ⟨led'', rfl, hx''⟩, ?_⟩, ?_⟩
        · simp only [List.mem_cons, List.mem_append] at hq ⊢
          rcases hq with e | e | e | e
          · exact .inr (.inl (.inl e))
          · exact .inl e
          · exact .inr (.inl (.inr (.inl e)))
          · exact .inr (.inr e)
        · funext y
          by_cases e : y = Str.ofString "arm" <;> simp [e]
        · have hba : b = a := hne
          have e1 : [a1, a2, a3, a4].take (i + 1) = [a1, a2, a3, a4].take i ++ [a] := by rw [List.take_succ, hai]; rfl
          rw [e1, List.all_append, hall]
          simp [hb, hba]
        · intro q hq
          rcases List.mem_cons.mp hq with rfl | hq
          · exact hI _ (.head _)
          · rcases List.mem_cons.mp hq with rfl | hq
            · exact hI _ (.tail _ (.head _))
            · exact (ap q hq).2 _ (.head _)
  · intro g' m' l h tk' hP1 Sl B' F' N'; refine hideG fun G0 k0 => ?_; obtain ⟨⟨ov, rfl⟩, ⟨led', rfl, hx'⟩, hall⟩ := hP1; refine k0 ?_; clear k0 G0
    clear F N hlt Xg Tg B
    dsimp only
    k_steps
    show BodyQ g L envs s _ (.ret (.bool true)) _
    refine ⟨g', _, _, h, _, rfl, Sl, F', N', ?_, led', rfl, hx'⟩
    show Value.bool true = .bool (own [a1, a2, a3, a4])
    exact congrArg Value.bool hall.symm
end
end Mine
end

section
open PySem PySem.Spec PySem.Calls PySem.W PyProof.Rows PyProof.Rows.LCg PySem.SeqAt
set_option Elab.async false
set_option maxRecDepth 100000
set_option maxHeartbeats 2000000
set_option linter.unusedVariables false
namespace Mine
theorem pick_list {vs : List Value} {ns : List Int} (hi : IntsAre vs ns) : ∀ l : List Nat, ∃ ms, IntsAre (l.filterMap fun i => vs[i]?) ms
  | [] => ⟨[], .nil⟩
  | i :: r => by
    obtain ⟨ms, h⟩ := pick_list hi r
    cases e : vs[i]? with
    | none => exact ⟨ms, by rw [List.filterMap_cons, e]; exact h⟩
    | some v =>
      obtain ⟨t, rfl⟩ := ints_at hi e
      exact ⟨_, by rw [List.filterMap_cons, e]; exact .cons _ t h⟩
theorem pick_ints {vs : List Value} {ns : List Int} (hi : IntsAre vs ns) (lo up st : Option Int) : ∃ ms, IntsAre (slicePick vs.toArray lo up st).toList ms := by
  obtain ⟨ms, h⟩ := pick_list hi (sliceRange (sliceBounds lo up st vs.toArray.size).1 (sliceBounds lo up st vs.toArray.size).2.1 (sliceBounds lo up st vs.toArray.size).2.2)
  refine ⟨ms, ?_⟩
  unfold slicePick
  simpa using h
theorem sel4 {ys : List Value} (h : Sel (fun _ y => ∃ a t, y = .int a t ∧ 0 ≤ a ∧ a ≤ 9) (fun _ => true) 4 ys) :
    ∃ a b c d ta tb tc td, ys = [.int a ta, .int b tb, .int c tc, .int d td] ∧ (0 ≤ a ∧ a ≤ 9) ∧ (0 ≤ b ∧ b ≤ 9) ∧ (0 ≤ c ∧ c ≤ 9) ∧ (0 ≤ d ∧ d ≤ 9) := by
  cases h with
  | no h => cases h
  | yes _ r4 h => cases h with
    | no h => cases h
    | yes _ r3 h => cases h with
      | no h => cases h
      | yes _ r2 h => cases h with
        | no h => cases h
        | yes _ r1 h => cases h with
          | zero =>
            refine hideG fun G0 k0 => ?_; obtain ⟨a, ta, rfl, ha⟩ := r1; refine k0 ?_; clear k0 G0
            refine hideG fun G0 k0 => ?_; obtain ⟨b, tb, rfl, hb⟩ := r2; refine k0 ?_; clear k0 G0
            refine hideG fun G0 k0 => ?_; obtain ⟨c, tc, rfl, hc⟩ := r3; refine k0 ?_; clear k0 G0
            refine hideG fun G0 k0 => ?_; obtain ⟨d, td, rfl, hd⟩ := r4; refine k0 ?_; clear k0 G0
            exact ⟨a, b, c, d, ta, tb, tc, td, rfl, ha, hb, hc, hd⟩
theorem ints4 {ws : List Value} {a b c d : Int} (h : IntsAre ws [a, b, c, d]) : ∃ ta tb tc td, ws = [.int a ta, .int b tb, .int c tc, .int d td] := by
  cases h with | cons _ ta h => cases h with | cons _ tb h => cases h with | cons _ tc h => cases h with | cons _ td h => cases h; exact ⟨_, _, _, _, rfl⟩
inductive FourP (v : Value) (l : List (Addr × Obj)) : Prop
  | mk (D : Addr) (a b c d : Int) (ta tb tc td : Tok) (k : Nat) (e : v = .ref D) (el : l = [(D, W.listOf #[.int a ta, .int b tb, .int c tc, .int d td] k)]) (nd : [a, b, c, d].Nodup) (hr : ∀ x ∈ [a, b, c, d], 0 ≤ x ∧ x ≤ 9) : FourP v l
section
variable {w : World} {base : Heap} {p : Program} {loose : List Str} {mean : ExcName → Option Value} {mg mb : Str → Option Value}
theorem four_con (X : (k0.heap_1 w.params).In base) (T : Top p loose mean mg mb base) (la : Addr) (vs : List Value) (ns : List Int) (hbl : base.IsList la vs.toArray) (hi : IntsAre vs ns) (hl : ns.length ≤ 63) :
    Con w base 330 [.ref la] 1 [] FourP (fun _ _ => False) := by
  k_with_none
  k_with "walk1" => first | (with_reducible refine Nx.next (by assumption) _ ?_; (try clear hN); (try clear Qc)) | (with_reducible refine Nx.ret (by assumption) ?_; (try clear hN); (try clear Qc)) | (with_reducible refine Nx.brk (by assumption) ?_; (try clear hN); (try clear Qc)) | (with_reducible refine Nx.cont (by assumption) ?_; (try clear hN); (try clear Qc))
  k_with "execs cons" => (refine execs_h fun Qc hN => ?_)
  k_with "eval ListComp" => refine here ?_
  refine' Con.ofC (binds := [(Str.ofString "script", .ref la)]) X T ?ho ?hcd ?hb ?hl ?hn ?h ?c2 ?c3 ?c4
  k_dflt ((case ho => k_is); (case hcd => k_is); (case hb => exact fun _ => BindsTo.of_eq rfl); (case hl => exact rfl); (case hn => decide +kernel); (case c2 => exact rfl); (case c3 => exact rfl); (case c4 => exact rfl))
  intro dp envs gd un s g L h₁ tk cells hdp hun B Xg Tg F N Y hlt
  k_cells Y
  simp only [List.cons_append, List.nil_append] at N
  have hgl : g.IsList la vs.toArray := by obtain ⟨o, e, r⟩ := hbl; exact ⟨o, B.stays _ _ e, r⟩
  try k_fold
  k_steps
  refine ListComp_T (by with_unfolding_all rfl) (by rfl) (by decide) ?_ (fun _ => rfl)
  k_steps
  refine enum_pure (L := L) (fun i y => ∃ a t, y = .int a t ∧ 0 ≤ a ∧ a ≤ 9) (by rfl) (by assumption) (by assumption) (.head _) (by show 4 ≤ sizeLine; decide) ?_ ?_ (by decide) (by rfl) (by rfl) (by rfl) (by decide)
  · intro e it C D i x t ys oe oi oC m₂ h tk' hx F' hC ha hb N'
    have hst : ∃ st ts, x = .int st ts ∧ (i : Int) < 4 := by
      have hi4 : i < 4 := by
        rcases Nat.lt_or_ge i 4 with h | h
        · exact h
        · rw [Array.getElem?_eq_none (by exact h)] at hx; cases hx
      rcases or4 i (by first | assumption | omega) with rfl | rfl | rfl | rfl <;> (cases hx; exact ⟨_, _, rfl, by decide⟩)
    refine hideG fun G0 k0 => ?_; obtain ⟨st, ts, rfl, hi4⟩ := hst; refine k0 ?_; clear k0 G0
    k_steps
    rename_i h9 k9 F9 N9
    dsimp only at N9
    obtain ⟨ms, hms⟩ := pick_ints hi (some (i : Int)) (some 60) (some 4)
    refine sumK (by rfl) F9 N9 ⟨_, (N9 _ (.head _)).1, rfl, _, rfl⟩ hms fun h10 tk10 t10 F10 N10 => ?_
    k_steps
    · exact F10
    · exact news_sub N10 (fun q hq => .tail _ hq)
  · intro ys D h tk' hs F' N' off
    k_lt off
    have hys : ∃ a b c d ta tb tc td, ys = [.int a ta, .int b tb, .int c tc, .int d td] ∧ (0 ≤ a ∧ a ≤ 9) ∧ (0 ≤ b ∧ b ≤ 9) ∧ (0 ≤ c ∧ c ≤ 9) ∧ (0 ≤ d ∧ d ≤ 9) := sel4 hs
    refine hideG fun G0 k0 => ?_; obtain ⟨a, b, c, d, ta, tb, tc, td, rfl, ba, bb, bc, bd⟩ := hys; refine k0 ?_; clear k0 G0
    k_steps
    refine ListComp_J (by with_unfolding_all rfl) (by rfl) (by decide) ?_ (fun _ => rfl)
    k_steps
    refine fm_pure (L := L) (fun j => !decide (([a, b, c, d, 1, 0, 2, 4] : List Int).getD j 0 ∈ ([a, b, c, d, 1, 0, 2, 4] : List Int).take j)) (fun j y => ∃ t, y = .int (([a, b, c, d, 1, 0, 2, 4] : List Int).getD j 0) t) (source_range (n := 8) (by rfl) (by assumption) (by assumption) (by assumption) (by decide) (by rfl)) (fun q hq => nomatch hq) (by decide) B ?_ ?_ ?_ (by decide) (by rfl) (by rfl)
    · rintro I C D2 i v ys g2 oI oC m₂ h2 tk2 hi8 ⟨tv, rfl⟩ S2 B2 F2 hC hx2 N2 ne off2
      have Xg2 := X.keeps B2.stays
      have Tg2 := T.keeps B2.stays
      k_steps
      refine PartEnd.intro ?_ (Slid.refl ..) (by assumption) (by assumption) (by k_dflt lcg_sub)
      have e := zn i
      rw [e, any_mem]
    · rintro I C D2 i v ys g2 oI oC m₂ h2 tk2 hi8 hp ⟨tv, rfl⟩ S2 B2 F2 hC hx2 N2 ne off2
      have Xg2 := X.keeps B2.stays
      have Tg2 := T.keeps B2.stays
      k_steps
      refine PartEnd.intro ?_ (Slid.refl ..) (by assumption) (by assumption) (by k_dflt lcg_sub)
      have e := zn i
      rw [e]
      exact ⟨_, rfl⟩
    · intro ys D2 g2 h2 tk2 hs S2 B2 F2 N2 off2
      have hy := hs.ints
      have Xg2 := X.keeps B2.stays
      have Tg2 := T.keeps B2.stays
      k_steps
      have hd := dd_all [a, b, c, d, 1, 0, 2, 4] 8 (Nat.le_refl 8)
      obtain ⟨x1, x2, x3, x4, e4, nd, rng⟩ := four_of [a, b, c, d, 1, 0, 2, 4] _ hd.1 hd.2 (fun x hx => List.mem_append_right [a, b, c, d] hx) (List.forall_mem_cons.mpr ⟨ba, List.forall_mem_cons.mpr ⟨bb, List.forall_mem_cons.mpr ⟨bc, List.forall_mem_cons.mpr ⟨bd, by decide⟩⟩⟩⟩)
      rename_i hI9 hC9 hL9 l9
      rw [e4] at hI9
      refine hideG fun G0 k0 => ?_; obtain ⟨t1, t2, t3, t4, rfl⟩ := ints4 hI9; refine k0 ?_; clear k0 G0
      exact ⟨g2, _, [(_, _)], _, _, rfl, S2, by assumption, news_sub (by assumption) (by k_dflt lcg_sub), _, x1, x2, x3, x4, t1, t2, t3, t4, _, rfl, rfl, nd, rng⟩
end
end Mine
end

section
open PySem PySem.Spec PySem.Calls PySem.W PyProof.Rows PyProof.Rows.LCg PySem.SeqAt
set_option Elab.async false
set_option maxRecDepth 100000
set_option maxHeartbeats 8000000
set_option linter.unusedVariables false
namespace Mine
section
variable {prog : Program} {w : World} {A : Around} {E : Value → Shared → Prop} {s : Shared} {elt t0 i0 t1 i1 : PySem.Expr} {ifs : List PySem.Expr} {scope : Scope} {pos : Pos} {it acc : Value} {env : Env} {R : Result → Shared → Prop}
theorem compTurn_two0 (elt t0 i0 t1 i1 : PySem.Expr) (ifs : List PySem.Expr) (scope : Scope) (pos : Pos) (it acc : Value) (env : Env) :
    compTurn (.ListComp elt [⟨t0, i0, [], 0⟩, ⟨t1, i1, ifs, 0⟩] scope pos) 0 it acc env = (do
      standAt i0.pos
      match ← pyNext it with
      | none => pure (.done .next)
      | some v =>
        letOwnedTupleGo t0 it v
        assign t0 env v
        let x ← eval i1 env
        standAt i1.pos
        let x ← foldedSetIterable i1 env x
        let _ ← runOwn (.compStart (.ListComp elt [⟨t0, i0, [], 0⟩, ⟨t1, i1, ifs, 0⟩] scope pos) 1 (← holding [x] (pyIter x)) acc env) env
        again (.compLoop (.ListComp elt [⟨t0, i0, [], 0⟩, ⟨t1, i1, ifs, 0⟩] scope pos) 0 it acc env)) := by rfl
theorem compTurn_two1 (elt t0 i0 t1 i1 : PySem.Expr) (ifs : List PySem.Expr) (scope : Scope) (pos : Pos) (it acc : Value) (env : Env) :
    compTurn (.ListComp elt [⟨t0, i0, [], 0⟩, ⟨t1, i1, ifs, 0⟩] scope pos) 1 it acc env = (do
      standAt i1.pos
      match ← pyNext it with
      | none => pure (.done .next)
      | some v =>
        letOwnedTupleGo t1 it v
        assign t1 env v
        let mut ok := true
        for c in ifs do
          if ok then ok ← isTrue c env (eval c env)
        if ok then
          (do let _ ← call (.builtin "list.append") [acc, ← eval elt env])
        again (.compLoop (.ListComp elt [⟨t0, i0, [], 0⟩, ⟨t1, i1, ifs, 0⟩] scope pos) 1 it acc env)) := by rfl

theorem loop_two1 (I : Nat → Shared → Prop)
    (turn : ∀ n s, I n s → wpAny (model prog w) A (pyNext it) (fun r s₁ => match r with
      | none => R (.ok .next) s₁
      | some v => wpAny (model prog w) A (assign t1 env v) (fun _ s₂ =>
          wpAny (model prog w) A (testsOf ifs env) (fun ok s₃ =>
            if ok = true then wpAny (model prog w) A (eval elt env) (fun x s₄ =>
              wpAny (model prog w) A (call (.builtin "list.append") [acc, x]) (fun _ s₅ => ∃ m, m < n ∧ I m s₅) (notedBy (model prog w) A env fun e s' => R (.error e) s') s₄) (notedBy (model prog w) A env fun e s' => R (.error e) s') s₃
            else ∃ m, m < n ∧ I m s₃) (notedBy (model prog w) A env fun e s' => R (.error e) s') s₂) (notedBy (model prog w) A env fun e s' => R (.error e) s') s₁) (notedBy (model prog w) A env fun e s' => R (.error e) s') s)
    (n : Nat) (h : I n s) (ht : ∀ v, letOwnedTupleGo t1 it v = pure () := by intro _; rfl) :
    codeAny (model prog w) A (.compLoop (.ListComp elt [⟨t0, i0, [], 0⟩, ⟨t1, i1, ifs, 0⟩] scope pos) 1 it acc env) R s := by
  refine codeAny_loop rfl I (fun n s hI => ?_) n h
  show wpAny _ A ((compTurn (.ListComp elt [⟨t0, i0, [], 0⟩, ⟨t1, i1, ifs, 0⟩] scope pos) 1 it acc env).onRaise (fun x => do noteFrame x env; theTreesLotGoes x)) _ _ s
  refine wpAny_noted ?_
  rw [compTurn_two1]
  refine wpAny_bind (wpAny_standAt (wpAny_bind (wpAny_mono (turn n s hI) (fun r s₁ h₁ => ?_) fun _ _ h' => h')))
  cases r with
  | none => exact wpAny_pure h₁
  | some v =>
    refine wpAny_bind (wpAny_of_eq (ht v) ?_)
    refine wpAny_bind (wpAny_mono h₁ (fun _ s₂ h₂ => wpAny_bind (wpAny_mono h₂ (fun ok s₃ h₃ => ?_) fun _ _ h' => h')) fun _ _ h' => h')
    cases ok with
    | false => exact wpAny_pure ⟨rfl, h₃⟩
    | true =>
      exact wpAny_bind (wpAny_bind (wpAny_mono h₃ (fun x s₄ h₄ => wpAny_bind (wpAny_mono h₄ (fun _ s₅ h₅ => wpAny_pure (wpAny_pure ⟨rfl, h₅⟩)) fun _ _ h' => h')) fun _ _ h' => h'))

theorem loop_two0 (I : Nat → Shared → Prop)
    (turn : ∀ n s, I n s → wpAny (model prog w) A (pyNext it) (fun r s₁ => match r with
      | none => R (.ok .next) s₁
      | some v => wpAny (model prog w) A (assign t0 env v) (fun _ s₂ =>
          wpAny (model prog w) A (eval i1 env) (fun x s₃ => wpAny (model prog w) A (pyIter x) (fun it1 s₄ =>
            codeAny (model prog w) A (.compStart (.ListComp elt [⟨t0, i0, [], 0⟩, ⟨t1, i1, ifs, 0⟩] scope pos) 1 it1 acc env) (fun r s' => match r with | .ok _ => ∃ m, m < n ∧ I m s' | .error e => cameBackBy (model prog w) A env (notedBy (model prog w) A env fun e s' => R (.error e) s') e s') s₄)
              (notedBy (model prog w) A env fun e s' => R (.error e) s') s₃) (notedBy (model prog w) A env fun e s' => R (.error e) s') s₂) (notedBy (model prog w) A env fun e s' => R (.error e) s') s₁) (notedBy (model prog w) A env fun e s' => R (.error e) s') s)
    (n : Nat) (h : I n s) (hs : ∀ x, foldedSetIterable i1 env x = pure x := by intro _; rfl) (ht : ∀ v, letOwnedTupleGo t0 it v = pure () := by intro _; rfl) :
    codeAny (model prog w) A (.compLoop (.ListComp elt [⟨t0, i0, [], 0⟩, ⟨t1, i1, ifs, 0⟩] scope pos) 0 it acc env) R s := by
  refine codeAny_loop rfl I (fun n s hI => ?_) n h
  show wpAny _ A ((compTurn (.ListComp elt [⟨t0, i0, [], 0⟩, ⟨t1, i1, ifs, 0⟩] scope pos) 0 it acc env).onRaise (fun x => do noteFrame x env; theTreesLotGoes x)) _ _ s
  refine wpAny_noted ?_
  rw [compTurn_two0]
  refine wpAny_bind (wpAny_standAt (wpAny_bind (wpAny_mono (turn n s hI) (fun r s₁ h₁ => ?_) fun _ _ h' => h')))
  cases r with
  | none => exact wpAny_pure h₁
  | some v =>
    refine wpAny_bind (wpAny_of_eq (ht v) ?_)
    refine wpAny_bind (wpAny_mono h₁ (fun _ s₂ h₂ => ?_) fun _ _ h' => h')
    refine wpAny_bind (wpAny_mono h₂ (fun x s₃ h₃ => ?_) fun _ _ h' => h')
    refine wpAny_bind (wpAny_standAt (wpAny_bind (wpAny_of_eq (hs x) (wpAny_bind (wpAny_holding (wpAny_mono h₃ (fun it1 s₄ h₄ => ?_) fun _ _ h' => h'))))))
    refine wpAny_bind (wpAny_runOwn (codeAny_mono h₄ fun r s' hr => ?_))
    cases r with
    | ok f => exact wpAny_pure ⟨rfl, hr⟩
    | error e => exact hr

theorem start_two1
    (h0 : codeAny (model prog w) A (.compLoop (.ListComp elt [⟨t0, i0, [], 0⟩, ⟨t1, i1, ifs, 0⟩] scope pos) 1 it acc env) R s)
    (h : wpAny (model prog w) A (pyIter it) (fun it' s' => codeAny (model prog w) A (.compLoop (.ListComp elt [⟨t0, i0, [], 0⟩, ⟨t1, i1, ifs, 0⟩] scope pos) 1 it' acc env) R s')
      (notedBy (model prog w) A env fun x s' => R (.error x) s') s) :
    codeAny (model prog w) A (.compStart (.ListComp elt [⟨t0, i0, [], 0⟩, ⟨t1, i1, ifs, 0⟩] scope pos) 1 it acc env) R s := by
  refine codeAny_of_tree ?_
  show wpAny _ _ ((compStart (.ListComp elt [⟨t0, i0, [], 0⟩, ⟨t1, i1, ifs, 0⟩] scope pos) 1 it acc env).onRaise (fun x => do noteFrame x env; standAt theWindowsPlace)) _ _ s
  refine wpAny_notedAt ?_
  unfold compStart
  show wpAny _ _ (ask >>= _) _ _ s
  refine wpAny_bind (wpAny_askSetting (wpAny_ite ?_))
  split
  · first
      | exact wpAny_bind (wpAny_pure (wpAny_pure (And.intro rfl h0)))
      | exact wpAny_pure (And.intro rfl h0)
  · first
      | exact wpAny_bind (wpAny_rule (wpAny_bind (wpAny_standAt (wpAny_bind (wpAny_mono h (fun it' s' h' => wpAny_pure (And.intro rfl h')) fun _ _ x => x)))))
      | (refine wpAny_bind (wpAny_rule ?_); show wpAny _ _ (standAt i1.pos >>= _) _ _ s; exact wpAny_bind (wpAny_standAt (wpAny_bind (wpAny_mono h (fun it' s' h' => wpAny_pure (And.intro rfl h')) fun _ _ x => x))))
end

inductive CompX (A₀ : Around) (base : Heap) (outer : List Env) (g : Heap) (L : Addr) (m : Str → Option Value) (s : Shared) (n : Nat) (J : Nat → List Value → List (Addr × Obj) → Prop) (I C D : Addr) (X : (Str → Option Value) → Prop) (St : Nat → Heap → Prop) (k : Nat) (s' : Shared) : Prop
  | mk (i : Nat) (ys : List Value) (g' : Heap) (oC : Obj) (m' : Str → Option Value) (led : List (Addr × Obj)) (o : Obj) (h : Heap) (tk : Nat) (e : s' = { s with heap := h, toks := tk }) (ek : k = n + 1 - i) (hi : i ≤ n) (j : J i ys led) (S : Slid (fra outer) g g') (B : Below A₀ base outer g') (F : Fr g' L h m) (hC : NsObj oC m' ∧ X m') (N : News g' L h ((I, o) :: (C, oC) :: (D, lst ys) :: led)) (off : Off I C D led) (st : St i h) : CompX A₀ base outer g L m s n J I C D X St k s'
section
variable {w : World} {A A₀ : Around} {base g : Heap} {outer : List Env} {L I C D : Addr} {m : Str → Option Value} {s : Shared} {news S : List (Addr × Obj)} {fp : List Addr} {n : Nat} {P : Nat → Value → Prop} {St : Nat → Heap → Prop} {env cenv : Env} {x0 x : Str} {v0 : Value} {p0 px : Pos} {elt i0 i1 : PySem.Expr} {ifs : List PySem.Expr} {scope : Scope} {cl : List (Str × Addr)} {pos : Pos} {R : Result → Shared → Prop} {E : Value → Shared → Prop}

noncomputable def TurnOk2 (w : World) (A A₀ : Around) (base : Heap) (outer : List Env) (g : Heap) (L : Addr) (m : Str → Option Value) (s : Shared) (n : Nat) (P : Nat → Value → Prop) (x0 : Str) (v0 : Value) (x : Str) (ifs : List PySem.Expr) (elt : PySem.Expr) (J : Nat → List Value → List (Addr × Obj) → Prop) (I C D : Addr) (cenv : Env) : Prop :=
  ∀ i v ys g' oI oC (m₂ : Str → Option Value) led h tk, i < n → P i v → J i ys led → Slid (fra outer) g g' → Below A₀ base outer g' → Fr g' L h m → NsObj oC m₂ → m₂ x = some v → m₂ x0 = some v0 → News g' L h ((I, oI) :: (C, oC) :: (D, lst ys) :: led) → ((@Ne Nat I C) ∧ (@Ne Nat I D) ∧ (@Ne Nat C D)) → Off I C D led →
      wpAny (MG w) A (testsOf ifs cenv) (fun ok s₃ => if ok = true
        then wpAny (MG w) A (eval elt cenv) (fun y s₄ => Turn outer g' L m s I oI C oC D (lst ys) (J (i + 1) (ys ++ [y])) s₄) (fun _ _ => False) s₃
        else Turn outer g' L m s I oI C oC D (lst ys) (J (i + 1) ys) s₃) (fun _ _ => False) { s with heap := h, toks := tk }

theorem inner_L (W : Walks PySem.Challenge.rw_ny0334_01.prog w A I fp [I] n P St) (hth : ∀ i h, St i h → ∃ o, h.get? I = some o) (hfp : ∀ b ∈ fp, b = I ∨ ∃ o, (b, o) ∈ S)
    (J : Nat → List Value → List (Addr × Obj) → Prop) (hS : ∀ i ys led, J i ys led → ∀ q ∈ S, q ∈ led) (hlen : ∀ i ys led, J i ys led → ys.length ≤ sizeLine)
    (B : Below A₀ base outer g) (F : Fr g L s.heap m) {o₀ oC₀ : Obj} {m₀ : Str → Option Value} {ys₀ : List Value} (N : News g L s.heap ((I, o₀) :: (C, oC₀) :: (D, lst ys₀) :: news)) (hC : NsObj oC₀ m₀) (h0 : m₀ x0 = some v0) (hxx : x0 ≠ x) (ne : I ≠ C ∧ I ≠ D ∧ C ≠ D) (off : Off I C D news) (hst : St 0 s.heap) (j0 : J 0 ys₀ news)
    (turn : TurnOk2 w A A₀ base outer g L m s n P x0 v0 x ifs elt J I C D cenv)
    (fin : ∀ ys g' oC m' led h tk, J n ys led → Slid (fra outer) g g' → Below A₀ base outer g' → Fr g' L h m → NsObj oC m' → News g' L h ((C, oC) :: (D, lst ys) :: led) → Off I C D led → R (.ok .next) { s with heap := h, toks := tk })
    (hL : cenv.locals = C) (hx : cenv.kindOf x = some .local) (hp : (cenv.scope.kind == .class || (cenv.scope.kind == .module && cenv.locals != cenv.globals)) = false) :
    codeAny (MG w) A (.compLoop (.ListComp elt [⟨.Name x0 p0, i0, [], 0⟩, ⟨.Name x px, i1, ifs, 0⟩] scope pos) 1 (.ref I) (.ref D) cenv) R s := by
  subst hL
  refine loop_two1 (CompX A₀ base outer g L m s n J I cenv.locals D (fun m' => m' x0 = some v0) St) ?_ (n + 1)
    ⟨0, ys₀, g, oC₀, m₀, news, o₀, s.heap, s.toks, rfl, rfl, Nat.zero_le _, j0, Slid.refl .., B, F, ⟨hC, h0⟩, N, off, hst⟩
  intro k s' hP1; refine hideG fun G0 k0 => ?_; obtain ⟨i, ys, g', oC, m', led, o, h, tk, eq1, eq2, hi, hj, Sl, B', F', ⟨hC', h0'⟩, N', off', st⟩ := hP1; refine k0 ?_; clear k0 G0; subst eq1; subst eq2
  have hI : ∀ q ∈ (cenv.locals, oC) :: (D, lst ys) :: led, q.1 ≠ I := fun q hq => by
    rcases List.mem_cons.mp hq with rfl | hq
    · exact Ne.symm ne.1
    · rcases List.mem_cons.mp hq with rfl | hq
      · exact Ne.symm ne.2.1
      · exact (off' q hq).1
  by_cases hlt : i < n
  · refine step_iter (s := { s with heap := h, toks := tk }) W hth F' N' hI hlt st fun v h1 tk1 o1 hP st1 F1 N1 => ?_
    have eC := N1 (cenv.locals, oC) (.tail _ (.head _))
    refine wpAny_assign_Name (wpAny_storeName_local hx (hC'.ns eC.1) (fun h2 hn2 hs2 => ?_) hp)
    refine hideG fun G0 k0 => ?_; obtain ⟨oC2, hoC2, hC2⟩ := ns_obj hn2; refine k0 ?_; clear k0 G0
    have F2 : Fr g' L h2 m := F1.change hs2 eC.2.1 eC.2.2
    have N2 : News g' L h2 ((I, o1) :: (cenv.locals, oC2) :: (D, lst ys) :: led) := N1.setSecond ne.1 (fun q hq => by
      rcases List.mem_cons.mp hq with rfl | hq
      · exact Ne.symm ne.2.2
      · exact (off' q hq).2.1) hs2 hoC2
    have inS : ∀ {a b c : Addr × Obj} {l : List (Addr × Obj)} {q : Addr × Obj}, q ∈ l → q ∈ a :: b :: c :: l := fun h => .tail _ (.tail _ (.tail _ h))
    have st2 : St (i + 1) h2 := st_keep W hfp st1 (N1 (I, o1) (.head _)).1 (N2 (I, o1) (.head _)).1 fun q hq => ⟨(N1 q (inS (hS _ _ _ hj q hq))).1, (N2 q (inS (hS _ _ _ hj q hq))).1⟩
    have h02 : (fun y => if y = x then some v else m' y) x0 = some v0 := by simp only [hxx, if_false]; exact h0'
    refine wpAny_mono (turn i v ys g' o1 oC2 _ led h2 (tk1 + 1) hlt hP hj Sl B' F2 hC2 (by simp) h02 N2 ne off') (fun ok s₃ hf => ?_) fun _ _ q => q.elim
    cases ok with
    | false =>
      simp only [Bool.false_eq_true, if_false] at hf ⊢
      refine hideG fun G0 k0 => ?_; obtain ⟨g3, led3, h3, tk3, eq1, S3, F3, N3, off3, j3⟩ := hf; refine k0 ?_; clear k0 G0; subst eq1
      exact ⟨n + 1 - (i + 1), sub_step1 (by assumption), i + 1, ys, g3, oC2, _, led3, o1, h3, tk3, rfl, rfl, hlt, j3, Sl.trans S3, below_slid B' S3, F3, ⟨hC2, h02⟩, N3, off3, st_keep W hfp st2 (N2 (I, o1) (.head _)).1 (N3 (I, o1) (.head _)).1 fun q hq => ⟨(N2 q (inS (hS _ _ _ hj q hq))).1, (N3 q (inS (hS _ _ _ j3 q hq))).1⟩⟩
    | true =>
      simp only [if_true] at hf ⊢
      refine wpAny_mono hf (fun y s₄ hg => ?_) fun _ _ q => q.elim
      refine hideG fun G0 k0 => ?_; obtain ⟨g3, led3, h3, tk3, eq1, S3, F3, N3, off3, j3⟩ := hg; refine k0 ?_; clear k0 G0; subst eq1
      have U : Upd D (PySem.W.listOf ys.toArray ys.length) (PySem.W.listOf (ys.toArray.push y) (ys.length + 1)) ((I, o1) :: (cenv.locals, oC2) :: (D, lst ys) :: led3) ((I, o1) :: (cenv.locals, oC2) :: (D, lst (ys ++ [y])) :: led3) := by
        rw [← Mine.lst_snoc]
        exact .tail ne.2.1 (.tail ne.2.2 (.head fun q hq => (off3 q hq).2.2))
      refine append_K (s := { s with heap := h3, toks := tk3 }) F3 N3 U (fun h4 F4 N4 => ?_) (by have := hlen _ _ _ hj; exact this)
      exact ⟨n + 1 - (i + 1), sub_step1 (by assumption), i + 1, ys ++ [y], g3, oC2, _, led3, o1, h4, tk3, rfl, rfl, hlt, j3, Sl.trans S3, below_slid B' S3, F4, ⟨hC2, h02⟩, N4, off3, st_keep W hfp st2 (N2 (I, o1) (.head _)).1 (N4 (I, o1) (.head _)).1 fun q hq => ⟨(N2 q (inS (hS _ _ _ hj q hq))).1, (N4 q (inS (hS _ _ _ j3 q hq))).1⟩⟩
  · have hin : i = n := by omega
    subst hin
    exact stop_iter (s := { s with heap := h, toks := tk }) W F' N' hI st fun h1 tk1 F1 N1 => fin ys g' oC m' led h1 tk1 hj Sl B' F1 hC' N1 off'
end
end Mine
end

section
open PySem PySem.Spec PySem.Calls PySem.W PyProof.Rows PyProof.Rows.LCg PySem.SeqAt
set_option Elab.async false
set_option maxRecDepth 100000
set_option maxHeartbeats 8000000
set_option linter.unusedVariables false
namespace Mine
section
variable {w : World} {A A₀ : Around} {base g : Heap} {outer : List Env} {L I C D : Addr} {m : Str → Option Value} {s : Shared} {news S : List (Addr × Obj)} {fp : List Addr} {n : Nat} {P : Nat → Value → Prop} {St : Nat → Heap → Prop} {env cenv : Env} {x0 x : Str} {p0 px : Pos} {elt i0 i1 : PySem.Expr} {ifs : List PySem.Expr} {scope : Scope} {cl : List (Str × Addr)} {pos : Pos} {R : Result → Shared → Prop} {E : Value → Shared → Prop} {n1 : Nat}

noncomputable def IterOk (w : World) (A A₀ : Around) (base : Heap) (outer : List Env) (L : Addr) (m : Str → Option Value) (s : Shared) (i1 : PySem.Expr) (n1 : Nat) (cenv : Env) : Prop :=
  ∀ g' all h tk, Below A₀ base outer g' → Fr g' L h m → News g' L h all →
    wpAny (MG w) A (eval i1 cenv) (fun xv s₃ => ∃ h' tk' r b t u v, s₃ = { s with heap := h', toks := tk' } ∧ Fr g' L h' m ∧ News g' L h' all ∧ xv = .ref r ∧ IsRange h' r 0 b 1 t u v ∧ Builtin.Range.small 0 b 1 = true ∧ Builtin.Range.rangeSize 0 b 1 = ((n1 : Nat) : Int)) (fun _ _ => False) { s with heap := h, toks := tk }

noncomputable def In2 (J2 : Nat → Value → Nat → List Value → List (Addr × Obj) → Prop) (I : Addr) (o : Obj) (i : Nat) (v : Value) (j : Nat) (ys : List Value) (l : List (Addr × Obj)) : Prop := ∃ led, l = (I, o) :: led ∧ (∀ q ∈ led, q.1 ≠ I) ∧ J2 i v j ys led

theorem outer_L (hh : A.handled = none) (W : Walks PySem.Challenge.rw_ny0334_01.prog w A I fp [I] n P St) (hth : ∀ i h, St i h → ∃ o, h.get? I = some o) (hfp : ∀ b ∈ fp, b = I ∨ ∃ o, (b, o) ∈ S)
    (J : Nat → List Value → List (Addr × Obj) → Prop) (J2 : Nat → Value → Nat → List Value → List (Addr × Obj) → Prop) (hS : ∀ i ys led, J i ys led → ∀ q ∈ S, q ∈ led) (hS2 : ∀ i v j ys led, J2 i v j ys led → ∀ q ∈ S, q ∈ led) (hlen : ∀ i v j ys led, J2 i v j ys led → ys.length ≤ sizeLine)
    (into : ∀ i v ys led, i < n → P i v → J i ys led → J2 i v 0 ys led) (back : ∀ i v ys led, i < n → P i v → J2 i v n1 ys led → J (i + 1) ys led)
    (B : Below A₀ base outer g) (F : Fr g L s.heap m) {o₀ oC₀ : Obj} {m₀ : Str → Option Value} (N : News g L s.heap ((I, o₀) :: (C, oC₀) :: (D, lst []) :: news)) (hC : NsObj oC₀ m₀) (ne : I ≠ C ∧ I ≠ D ∧ C ≠ D) (off : Off I C D news) (hst : St 0 s.heap) (j0 : J 0 [] news)
    (iterOk : IterOk w A A₀ base outer L m s i1 n1 cenv)
    (turn : ∀ I2 i v o g', i < n → P i v → Slid (fra outer) g g' → @Ne Nat I2 I → TurnOk2 w A A₀ base outer g' L m s n1 (fun j u => ∃ t, u = .int ((0 : Int) + (j : Int)) t) x0 v x ifs elt (In2 J2 I o i v) I2 C D cenv)
    (fin : ∀ ys g' oC m' led h tk, J n ys led → Slid (fra outer) g g' → Below A₀ base outer g' → Fr g' L h m → NsObj oC m' → News g' L h ((C, oC) :: (D, lst ys) :: led) → Off I C D led → R (.ok .next) { s with heap := h, toks := tk })
    (hL : cenv.locals = C) (hx0 : cenv.kindOf x0 = some .local) (hx : cenv.kindOf x = some .local) (hxx : x0 ≠ x) (hp : (cenv.scope.kind == .class || (cenv.scope.kind == .module && cenv.locals != cenv.globals)) = false)
    (hs : ∀ x, foldedSetIterable i1 cenv x = pure x) :
    codeAny (MG w) A (.compLoop (.ListComp elt [⟨.Name x0 p0, i0, [], 0⟩, ⟨.Name x px, i1, ifs, 0⟩] scope pos) 0 (.ref I) (.ref D) cenv) R s := by
  subst hL
  refine loop_two0 (CompS A₀ base outer g L m s n J I cenv.locals D St) ?_ (n + 1)
    ⟨0, [], g, oC₀, m₀, news, o₀, s.heap, s.toks, rfl, rfl, Nat.zero_le _, j0, Slid.refl .., B, F, hC, N, off, hst⟩ hs
  intro k s' hP1; refine hideG fun G0 k0 => ?_; obtain ⟨i, ys, g', oC, m', led, o, h, tk, eq1, eq2, hi, hj, Sl, B', F', hC', N', off', st⟩ := hP1; refine k0 ?_; clear k0 G0; subst eq1; subst eq2
  have hI : ∀ q ∈ (cenv.locals, oC) :: (D, lst ys) :: led, q.1 ≠ I := fun q hq => by
    rcases List.mem_cons.mp hq with rfl | hq
    · exact Ne.symm ne.1
    · rcases List.mem_cons.mp hq with rfl | hq
      · exact Ne.symm ne.2.1
      · exact (off' q hq).1
  by_cases hlt : i < n
  · refine step_iter (s := { s with heap := h, toks := tk }) W hth F' N' hI hlt st fun v h1 tk1 o1 hP st1 F1 N1 => ?_
    have eC := N1 (cenv.locals, oC) (.tail _ (.head _))
    refine wpAny_assign_Name (wpAny_storeName_local hx0 (hC'.ns eC.1) (fun h2 hn2 hs2 => ?_) hp)
    refine hideG fun G0 k0 => ?_; obtain ⟨oC2, hoC2, hC2⟩ := ns_obj hn2; refine k0 ?_; clear k0 G0
    have F2 : Fr g' L h2 m := F1.change hs2 eC.2.1 eC.2.2
    have N2 : News g' L h2 ((I, o1) :: (cenv.locals, oC2) :: (D, lst ys) :: led) := N1.setSecond ne.1 (fun q hq => by
      rcases List.mem_cons.mp hq with rfl | hq
      · exact Ne.symm ne.2.2
      · exact (off' q hq).2.1) hs2 hoC2
    have inS : ∀ {a b c : Addr × Obj} {l : List (Addr × Obj)} {q : Addr × Obj}, q ∈ l → q ∈ a :: b :: c :: l := fun h => .tail _ (.tail _ (.tail _ h))
    have st2 : St (i + 1) h2 := st_keep W hfp st1 (N1 (I, o1) (.head _)).1 (N2 (I, o1) (.head _)).1 fun q hq => ⟨(N1 q (inS (hS _ _ _ hj q hq))).1, (N2 q (inS (hS _ _ _ hj q hq))).1⟩
    refine wpAny_mono (iterOk g' _ h2 (tk1 + 1) B' F2 N2) (fun xv s₃ hf => ?_) fun _ _ q => q.elim
    refine hideG fun G0 k0 => ?_; obtain ⟨h3, tk3, r, b, t, u, v3, eq1, F3, N3, eq2, hr, hsm, hrn⟩ := hf; refine k0 ?_; clear k0 G0; subst eq1; subst eq2
    refine source_range (w := w) (A := A) (s := { s with heap := h3, toks := tk3 }) hh F3 N3 hr hsm hrn _ _ fun I2 o2 h4 fp4 St4 W4 hth4 hfp4 hst4 F4 N4 hI2 => ?_
    have nI2 : I2 ≠ I := Ne.symm (hI2 (I, o1) (.head _))
    have nC2 : I2 ≠ cenv.locals := Ne.symm (hI2 (cenv.locals, oC2) (.tail _ (.head _)))
    have nD2 : I2 ≠ D := Ne.symm (hI2 (D, lst ys) (.tail _ (.tail _ (.head _))))
    have N5 : News g' L h4 ((I2, o2) :: (cenv.locals, oC2) :: (D, lst ys) :: (I, o1) :: led) := news_sub N4 fun q hq => by
      simp only [List.mem_cons] at hq ⊢
      rcases hq with e | e | e | e | e
      · exact .inl e
      · exact .inr (.inr (.inl e))
      · exact .inr (.inr (.inr (.inl e)))
      · exact .inr (.inl e)
      · exact .inr (.inr (.inr (.inr e)))
    have inner : codeAny (MG w) A (.compLoop (.ListComp elt [⟨.Name x0 p0, i0, [], 0⟩, ⟨.Name x px, i1, ifs, 0⟩] scope pos) 1 (.ref I2) (.ref D) cenv) (fun r s' => match r with | .ok _ => ∃ k', k' < n + 1 - i ∧ CompS A₀ base outer g L m s n J I cenv.locals D St k' s' | .error e => cameBackBy (MG w) A cenv (notedBy (MG w) A cenv fun e s' => R (.error e) s') e s') { s with heap := h4, toks := tk3 } := by
      refine inner_L (S := []) (s := { s with heap := h4, toks := tk3 }) W4 hth4 hfp4 (In2 J2 I o1 i v) (fun _ _ _ _ q hq => nomatch hq) (fun j ys' l hj' => by obtain ⟨_, _, _, h⟩ := hj'; exact hlen _ _ _ _ _ h) B' F4 N5 hC2 (by simp) hxx ⟨nC2, nD2, ne.2.2⟩ (fun q hq => ?_) hst4 ⟨led, rfl, fun q hq => (off' q hq).1, into i v ys led hlt hP hj⟩ (turn I2 i v o1 g' hlt hP Sl nI2) (fun ys5 g5 oC5 m5 led5 h5 tk5 hj5 S5 B5 F5 hC5 N5' off5 => ?_) rfl hx hp
      · rcases List.mem_cons.mp hq with rfl | hq
        · exact ⟨Ne.symm nI2, ne.1, ne.2.1⟩
        · exact ⟨hI2 q (inS hq), (off' q hq).2⟩
      · refine hideG fun G0 k0 => ?_; obtain ⟨led6, eq1, offI, hj6⟩ := hj5; refine k0 ?_; clear k0 G0; subst eq1
        have N6 : News g5 L h5 ((I, o1) :: (cenv.locals, oC5) :: (D, lst ys5) :: led6) := news_sub N5' fun q hq => by
          simp only [List.mem_cons] at hq ⊢
          rcases hq with e | e | e | e
          · exact .inr (.inr (.inl e))
          · exact .inl e
          · exact .inr (.inl e)
          · exact .inr (.inr (.inr e))
        exact ⟨n + 1 - (i + 1), sub_step1 (by assumption), i + 1, ys5, g5, oC5, m5, led6, o1, h5, tk5, rfl, rfl, hlt, back i v ys5 led6 hlt hP hj6, Sl.trans S5, B5, F5, hC5, N6, fun q hq => ⟨offI q hq, (off5 q (.tail _ hq)).2⟩, st_keep W hfp st2 (N2 (I, o1) (.head _)).1 (N6 (I, o1) (.head _)).1 fun q hq => ⟨(N2 q (inS (hS _ _ _ hj q hq))).1, (N6 q (inS (hS2 _ _ _ _ _ hj6 q hq))).1⟩⟩
    exact start_two1 inner (W4.self 0 _ _ _ hst4 inner)
  · have hin : i = n := by omega
    subst hin
    exact stop_iter (s := { s with heap := h, toks := tk }) W F' N' hI st fun h1 tk1 F1 N1 => fin ys g' oC m' led h1 tk1 hj Sl B' F1 hC' N1 off'
end
end Mine
end

section
open PySem PySem.Spec PySem.Calls PySem.W PyProof.Rows PyProof.Rows.LCg PySem.SeqAt
set_option Elab.async false
set_option maxRecDepth 100000
set_option maxHeartbeats 8000000
set_option linter.unusedVariables false
namespace Mine
section
variable {w : World} {A A₀ : Around} {base g : Heap} {outer : List Env} {L I : Addr} {m : Str → Option Value} {s : Shared} {news S : List (Addr × Obj)} {fp : List Addr} {n n1 : Nat} {P : Nat → Value → Prop} {St : Nat → Heap → Prop} {env : Env} {x0 x : Str} {p0 px : Pos} {elt i0 i1 : PySem.Expr} {ifs : List PySem.Expr} {scope : Scope} {cl : List (Str × Addr)} {pos : Pos} {E : Value → Shared → Prop} {xv : Value}

structure Two (w : World) (A A₀ : Around) (base : Heap) (outer : List Env) (g : Heap) (L : Addr) (m : Str → Option Value) (s : Shared) (S : List (Addr × Obj)) (n n1 : Nat) (P : Nat → Value → Prop) (x0 x : Str) (i1 : PySem.Expr) (ifs : List PySem.Expr) (elt : PySem.Expr) (J : Nat → List Value → List (Addr × Obj) → Prop) (J2 : Nat → Value → Nat → List Value → List (Addr × Obj) → Prop) (scope : Scope) (cl : List (Str × Addr)) (env : Env) : Prop where
  hS : ∀ i ys led, J i ys led → ∀ q ∈ S, q ∈ led
  hS2 : ∀ i v j ys led, J2 i v j ys led → ∀ q ∈ S, q ∈ led
  hlen : ∀ i v j ys led, J2 i v j ys led → ys.length ≤ sizeLine
  into : ∀ i v ys led, i < n → P i v → J i ys led → J2 i v 0 ys led
  back : ∀ i v ys led, i < n → P i v → J2 i v n1 ys led → J (i + 1) ys led
  iter : ∀ h₂ C, IterOk w A A₀ base outer L m { s with heap := h₂ } i1 n1 (compEnvC scope cl C env)
  turn : ∀ (h₂ : Heap) I C D I2 i v o g', i < n → P i v → Slid (fra outer) g g' → @Ne Nat I2 I → TurnOk2 w A A₀ base outer g' L m { s with heap := h₂ } n1 (fun j u => ∃ t, u = .int ((0 : Int) + (j : Int)) t) x0 v x ifs elt (In2 J2 I o i v) I2 C D (compEnvC scope cl C env)

theorem block2_L {J : Nat → List Value → List (Addr × Obj) → Prop} {J2 : Nat → Value → Nat → List Value → List (Addr × Obj) → Prop} (hh : A.handled = none) (W : Walks PySem.Challenge.rw_ny0334_01.prog w A I fp [I] n P St) (hth : ∀ i h, St i h → ∃ o, h.get? I = some o) (hfp : ∀ b ∈ fp, b = I ∨ ∃ o, (b, o) ∈ S) (hfs : ∀ q ∈ S, q ∈ news)
    (Z : Two w A A₀ base outer g L m s S n n1 P x0 x i1 ifs elt J J2 scope cl env)
    (B : Below A₀ base outer g) (F : Fr g L s.heap m) {o₀ : Obj} (N : News g L s.heap ((I, o₀) :: news)) (hI : ∀ q ∈ news, q.1 ≠ I) (hst : St 0 s.heap) (j0 : J 0 [] news)
    {PostC : Value → Addr → Result → Shared → Prop}
    (fin : ∀ ys D C g' oC m' led h tk, J n ys led → Slid (fra outer) g g' → Below A₀ base outer g' → Fr g' L h m → NsObj oC m' → News g' L h ((C, oC) :: (D, lst ys) :: led) → C ≠ D → Off I C D led → PostC (.ref D) C (.ok .next) { s with heap := h, toks := tk })
    (hcell : ∀ y ∈ scope.names, y.2 ≠ .cell) (hkind : scope.kind = .function) (hx0 : scope.names.lookup x0 = some .local) (hx : scope.names.lookup x = some .local) (hxx : x0 ≠ x) (hs : ∀ C x, foldedSetIterable i1 (compEnvC scope cl C env) x = pure x) :
    wpAny (MG w) A (newList []) (fun acc s₃ => wpAny (MG w) A (newFunctionEnv scope env.globals cl [] env.qual none .none (some env)) (fun cenv s₄ =>
      codeAny (MG w) A (.compStart (.ListComp elt [⟨.Name x0 p0, i0, [], 0⟩, ⟨.Name x px, i1, ifs, 0⟩] scope pos) 0 (.ref I) acc { cenv with scope := relabel scope env }) (PostC acc cenv.locals) s₄) E s₃) E s := by
  have nI := N (I, o₀) (.head _)
  refine wpAny_newObj_type (T := "list") (data := .seq #[]) ?_ (by show (0 : Nat) ≤ sizeLine; exact Nat.zero_le _)
  show wpAny _ _ _ _ _ { s with heap := s.heap.push (lst []) }
  refine wpAny_newFunctionEnv (s := { s with heap := s.heap.push (lst []) }) hcell (fun y hy => by cases hy) (fun h2 hns2 hs2 => ?_) hkind
  have fresh : ∀ b, s.heap.objs.size ≤ b → g.get? b = none := fun b hb => by
    cases e : g.get? b with
    | none => rfl
    | some o => exact absurd (Heap.lt_size (F.keep b o e)) (Nat.not_lt.mpr hb)
  have old : ∀ b o, s.heap.get? b = some o → b < s.heap.objs.size := fun b o e => Heap.lt_size e
  have hCe : (s.heap.push (lst [])).objs.size = s.heap.objs.size + 1 := Heap.size_push ..
  have getD : (s.heap.push (lst [])).get? s.heap.objs.size = some (lst []) := Heap.get?_push_size _ rfl
  have g1 : g.get? s.heap.objs.size = none := fresh _ (Nat.le_refl _)
  have g2 : g.get? (s.heap.push (lst [])).objs.size = none := fresh _ (by rw [hCe]; exact Nat.le_succ _)
  have hLlt := F.ns.lt
  generalize hC : (s.heap.push (lst [])).objs.size = C at *
  generalize hD : s.heap.objs.size = D at *
  have hDC : D ≠ C := by rw [hCe]; exact Nat.ne_of_lt (Nat.lt_succ_self _)
  have upC : ∀ b o, s.heap.get? b = some o → b ≠ D ∧ b ≠ C := fun b o e => ⟨Nat.ne_of_lt (old b o e), by rw [hCe]; exact Nat.ne_of_lt (Nat.lt_succ_of_lt (old b o e))⟩
  have up2 : ∀ b o, s.heap.get? b = some o → h2.get? b = some o := fun b o e => hs2.extBut b o (upC b o e).2 (Heap.get?_push_of_some _ (Heap.get?_push_of_some _ e))
  have getD2 : h2.get? D = some (lst []) := hs2.extBut _ _ hDC (Heap.get?_push_of_some _ getD)
  obtain ⟨oC, hoC, hCn⟩ := ns_obj hns2
  have hLD : D ≠ L := Ne.symm (Nat.ne_of_lt hLlt)
  have hLC : C ≠ L := by rw [hCe]; exact Ne.symm (Nat.ne_of_lt (Nat.lt_succ_of_lt hLlt))
  have F2 : Fr g L h2 m := F.keeps up2
  have N2 : News g L h2 ((I, o₀) :: (C, oC) :: (D, lst []) :: news) := fun q hq => by
    rcases List.mem_cons.mp hq with rfl | hq
    · exact ⟨up2 _ _ nI.1, nI.2⟩
    · rcases List.mem_cons.mp hq with rfl | hq
      · exact ⟨hoC, hLC, g2⟩
      · rcases List.mem_cons.mp hq with rfl | hq
        · exact ⟨getD2, hLD, g1⟩
        · have := N q (List.mem_cons_of_mem _ hq)
          exact ⟨up2 _ _ this.1, this.2⟩
  have st2 : St 0 h2 := st_keep W hfp hst nI.1 (N2 (I, o₀) (.head _)).1 fun q hq => ⟨(N q (List.mem_cons_of_mem _ (hfs q hq))).1, (N2 q (.tail _ (.tail _ (.tail _ (hfs q hq))))).1⟩
  have nes := upC _ _ nI.1
  have loop : codeAny (MG w) A (.compLoop (.ListComp elt [⟨.Name x0 p0, i0, [], 0⟩, ⟨.Name x px, i1, ifs, 0⟩] scope pos) 0 (.ref I) (.ref D) (compEnvC scope cl C env)) (PostC (.ref D) C) { s with heap := h2 } := by
    refine outer_L (s := { s with heap := h2 }) hh W hth hfp J J2 Z.hS Z.hS2 Z.hlen Z.into Z.back B F2 N2 hCn ⟨nes.2, nes.1, Ne.symm hDC⟩ (fun q hq => ?_) st2 j0 (Z.iter h2 C) (fun I2 i v o g' => Z.turn h2 I C D I2 i v o g') (fun ys g' oC m' led h tk hj Sl B' F' hC' N' off => fin ys D C g' oC m' led h tk hj Sl B' F' hC' N' (Ne.symm hDC) off) rfl (lookup_relabel_local hx0) (lookup_relabel_local hx) hxx (by simp [compEnvC, relabel, hkind]) (hs C)
    have := upC _ _ (N q (List.mem_cons_of_mem _ hq)).1
    exact ⟨hI q hq, this.2, this.1⟩
  exact codeAny_compStart_list loop (W.self 0 _ _ _ st2 loop)

noncomputable def Src2 (w : World) (A : Around) (E : Value → Shared → Prop) (elt : PySem.Expr) (x0 : Str) (p0 : Pos) (i0 : PySem.Expr) (x : Str) (px : Pos) (i1 : PySem.Expr) (ifs : List PySem.Expr) (scope : Scope) (pos : Pos) (cl : List (Str × Addr)) (env : Env) (PostC : Value → Addr → Result → Shared → Prop) (xv : Value) (s₁ : Shared) : Prop :=
  wpAny (MG w) A (pyIter xv) (fun it s₂ => wpAny (MG w) A (newList []) (fun acc s₃ => wpAny (MG w) A (newFunctionEnv scope env.globals cl [] env.qual none .none (some env)) (fun cenv s₄ =>
      codeAny (MG w) A (.compStart (.ListComp elt [⟨.Name x0 p0, i0, [], 0⟩, ⟨.Name x px, i1, ifs, 0⟩] scope pos) 0 it acc { cenv with scope := relabel scope env }) (PostC acc cenv.locals) s₄) E s₃) E s₂) E s₁

theorem AssignComp2 {y : Str} {py spos : Pos} {Q : Flow → Shared → Prop} (hsw : swapsWith (.ListComp elt [⟨.Name x0 p0, i0, [], 0⟩, ⟨.Name x px, i1, ifs, 0⟩] scope pos) (some (.Name y py)) spos.line env = pure true)
    (hclos : closureFor scope env = pure cl) (hkind : scope.kind = .function)
    (hnames : ∀ y ∈ scope.names, y.2 = .local → scope.names.lookup y.1 = some .local)
    (h : wpAny (MG w) A (eval i0 env) (Src2 w A E elt x0 p0 i0 x px i1 ifs scope pos cl env (compPost (MG w) A E (some (assign (.Name y py) env)) (fun _ s' => Q .next s'))) E s)
    (hs : ∀ x, foldedSetIterable i0 env x = pure x) :
    wpAny (MG w) A (exec (.Assign [.Name y py] (.ListComp elt [⟨.Name x0 p0, i0, [], 0⟩, ⟨.Name x px, i1, ifs, 0⟩] scope pos) spos) env) Q E s := by
  rw [exec_Assign_Name_used _ _ _ _ hsw]
  refine wpAny_bind (wpAny_standAt (wpAny_bind ?_))
  show wpAny _ A (do let _ ← comprehension (.ListComp elt [⟨.Name x0 p0, i0, [], 0⟩, ⟨.Name x px, i1, ifs, 0⟩] scope pos) scope env _ (newList []) false (eval i0 env) (some (assign (.Name y py) env))) _ _ s
  exact wpAny_bind (wpAny_mono (wpAny_comprehension_free (use := some (assign (.Name y py) env)) (Q := fun _ s' => Q .next s') rfl hs hclos hkind hnames h) (fun _ s' hq => wpAny_pure (wpAny_pure hq)) fun _ _ e => e)

theorem src2_A {J : Nat → List Value → List (Addr × Obj) → Prop} {J2 : Nat → Value → Nat → List Value → List (Addr × Obj) → Prop} {y : Str} {py : Pos} {Q : Value → Shared → Prop} (hh : A.handled = none) (So : Source w A g L m s news xv S n P) (hfs : ∀ q ∈ S, q ∈ news)
    (Z : Two w A A₀ base outer g L m s S n n1 P x0 x i1 ifs elt J J2 scope cl env) (B : Below A₀ base outer g) (j0 : J 0 [] news)
    (fin : ∀ ys D g' led h tk, J n ys led → Slid (fra outer) g g' → Below A₀ base outer g' → Fr g' L h (fun z => if z = y then some (.ref D) else m z) → News g' L h ((D, lst ys) :: led) → (∀ q ∈ led, q.1 ≠ D) → Q .none { s with heap := h, toks := tk })
    (hcell : ∀ y ∈ scope.names, y.2 ≠ .cell) (hkind : scope.kind = .function) (hx0 : scope.names.lookup x0 = some .local) (hx : scope.names.lookup x = some .local) (hxx : x0 ≠ x) (hs : ∀ C x, foldedSetIterable i1 (compEnvC scope cl C env) x = pure x)
    (hL : env.locals = L) (hy : env.kindOf y = some .local) (hp : (env.scope.kind == .class || (env.scope.kind == .module && env.locals != env.globals)) = false) :
    Src2 w A E elt x0 p0 i0 x px i1 ifs scope pos cl env (compPost (MG w) A E (some (assign (.Name y py) env)) Q) xv s := by
  subst hL
  refine So _ _ fun I o₀ h fp St W hth hfp hst F N hI => block2_L (s := { s with heap := h }) hh W hth hfp hfs ⟨Z.hS, Z.hS2, Z.hlen, Z.into, Z.back, Z.iter, Z.turn⟩ B F N hI hst j0 (fun ys D C g' oC m' led h' tk hj Sl B' F' hC N' ne off => ?_) hcell hkind hx0 hx hxx hs
  have eC := N' (C, oC) (.head _)
  show wpAny _ A (assign (.Name y py) env (.ref D)) _ _ _
  refine wpAny_assign_Name (wpAny_storeName_local hy F'.ns (fun h₂ hn₂ hs₂ => ?_) hp)
  have F2 := F'.set hn₂ hs₂
  have N2 := N'.set hs₂
  have eC2 := N2 (C, oC) (.head _)
  refine ⟨m', hC.ns eC2.1, fun h'' hs => fin ys D g' led h'' _ hj Sl B' (F2.change hs eC.2.1 eC.2.2) (fun q hq => ?_) fun q hq => (off q hq).2.2⟩
  have := N2 q (.tail _ hq)
  refine ⟨hs.extBut _ _ ?_ this.1, this.2⟩
  rcases List.mem_cons.mp hq with rfl | hq
  · exact Ne.symm ne
  · exact (off q hq).2.1
end
end Mine
end

section
open PySem PySem.Spec PySem.Calls PySem.W PyProof.Rows PyProof.Rows.LCg PySem.SeqAt
set_option Elab.async false
set_option maxRecDepth 100000
set_option maxHeartbeats 400000
set_option linter.unusedVariables false
namespace Mine
inductive NestsP (n : Nat) (v : Value) (l : List (Addr × Obj)) : Prop
  | mk (D : Addr) (vs : List Value) (led : List (Addr × Obj)) (kk : Nat) (e : v = .ref D) (el : l = (D, W.listOf vs.toArray kk) :: led) (h : NL led vs (nestsN n)) : NestsP n v l
inductive NestsJ (i : Nat) (m' : Str → Option Value) (l : List (Addr × Obj)) : Prop
  | mk (ov : Option Value) (D : Addr) (vs : List Value) (led : List (Addr × Obj)) (kk : Nat) (em : m' = fun y => if y = Str.ofString "turn" then ov else if y = Str.ofString "nests" then some (.ref D) else none) (e : l = (D, W.listOf vs.toArray kk) :: led) (h : NL led vs (nestsN i)) : NestsJ i m' l
section
variable {w : World} {base : Heap} {p : Program} {loose : List Str} {mean : ExcName → Option Value} {mg mb : Str → Option Value}
theorem nests_con (X : (k0.heap_1 w.params).In base) (T : Top p loose mean mg mb base) :
    Con w base 335 [] 1 [] (NestsP 4) (fun _ _ => False) := by
  k_with_none
  k_with "walk1" => first | (with_reducible refine Nx.next (by assumption) _ ?_; (try clear hN); (try clear Qc)) | (with_reducible refine Nx.ret (by assumption) ?_; (try clear hN); (try clear Qc)) | (with_reducible refine Nx.brk (by assumption) ?_; (try clear hN); (try clear Qc)) | (with_reducible refine Nx.cont (by assumption) ?_; (try clear hN); (try clear Qc))
  k_with "execs cons" => (refine execs_h fun Qc hN => ?_)
  k_with "exec For Name Call cons nil" => refine here ?_
  k_with "exec Assign cons ListComp" => refine here ?_
  refine' Con.of (binds := []) X T ?ho ?hcd ?hb ?hl ?h ?c2 ?c3 ?c4 ?c5
  k_dflt ((case ho => k_is); (case hcd => k_is); (case hb => exact fun _ => BindsTo.of_eq rfl); (case hl => exact locs rfl); (case c2 => exact rfl); (case c3 => exact rfl); (case c4 => exact rfl); (case c5 => decide))
  intro dp envs gd un s g L h₁ tk hdp hun B Xg Tg F N hlt
  try k_fold
  k_steps
  refine for_E ?_ (fun _ => rfl)
  k_steps
  refine for_L (L := L) (source_range (n := 4) (by rfl) (by assumption) (by assumption) (by assumption) (by decide) (by rfl)) (fun q hq => nomatch hq) NestsJ (fun _ _ _ _ q hq => nomatch hq) B ?_ ?_ ?_ rfl rfl rfl
  · refine ⟨none, _, [_], [_], 0, funext fun y => ?_, rfl, .snoc .nil (.head _) .nil⟩
    by_cases e : y = Str.ofString "turn"
    · subst e; rfl
    · simp [e]
  · intro I i v g' m' l o h tk' hi hP1 hP2 Sl B' F' N' hI; refine hideG fun G0 k0 => ?_; obtain ⟨tv, rfl⟩ := hP1; obtain ⟨ov, D, vs, led, kk, rfl, rfl, hnl⟩ := hP2; refine k0 ?_; clear k0 G0
    have Xg := X.keeps B'.stays
    have Tg := T.keeps B'.stays
    try k_fold
    k_steps
    refine AssignComp2 (by with_unfolding_all rfl) (by with_unfolding_all rfl) (by rfl) (by decide) ?_ (fun _ => rfl)
    k_steps
    have hlen := hnl.len
    have h24 := nests_len i (by omega)
    refine src2_A (L := L) (n1 := 4) (J := fun k ys l => (∀ q ∈ (I, o) :: (D, W.listOf vs.toArray kk) :: led, q ∈ l) ∧ k ≤ vs.length ∧ ys.length ≤ 4 * k ∧ NL (offL I l) ys (((nestsN i).take k).flatMap (extN 4)))
      (J2 := fun k v j ys l => (∀ q ∈ (I, o) :: (D, W.listOf vs.toArray kk) :: led, q ∈ l) ∧ k < vs.length ∧ j ≤ 4 ∧ ys.length ≤ 4 * k + j ∧ ∃ u, (nestsN i)[k]? = some u ∧ NL (offL I l) ys (((nestsN i).take k).flatMap (extN 4) ++ extN j u))
      (by rfl) (source_list (by rfl) F' N' (.tail _ (.head _))) (fun q hq => by rw [List.mem_singleton.mp hq]; exact .tail _ (.head _)) ⟨?z1, ?z2, ?z3, ?z4, ?z5, ?z6, ?z7⟩ B' ⟨fun q hq => hq, Nat.zero_le _, Nat.zero_le _, .nil⟩ ?fin (by decide) (by rfl) (by rfl) (by rfl) (by decide) (by intro _ _; rfl) rfl rfl rfl
    case z1 => rintro k ys l ⟨h1, _⟩ q hq; rw [List.mem_singleton.mp hq]; exact h1 _ (.tail _ (.head _))
    case z2 => rintro k v j ys l ⟨h1, _⟩ q hq; rw [List.mem_singleton.mp hq]; exact h1 _ (.tail _ (.head _))
    case z3 => rintro k v j ys l ⟨_, h2, h3, h4, _⟩; exact Nat.le_trans (show ys.length ≤ 100 by omega) (by decide)
    case z4 =>
      intro k v ys l hk hv hP1; refine hideG fun G0 k0 => ?_; obtain ⟨h1, h2, h3, h4⟩ := hP1; refine k0 ?_; clear k0 G0
      have hk' : k < vs.length := by simpa using hk
      have : k < (nestsN i).length := by omega
      exact ⟨h1, hk', Nat.zero_le _, h3, _, List.getElem?_eq_getElem this, by show NL (offL I l) ys (_ ++ []); rw [List.append_nil]; exact h4⟩
    case z5 =>
      intro k v ys l hk hv hP1; refine hideG fun G0 k0 => ?_; obtain ⟨h1, h2, h3, h4, u, hu, h5⟩ := hP1; refine k0 ?_; clear k0 G0
      refine ⟨h1, h2, h4, ?_⟩
      rw [List.take_add_one, hu, List.flatMap_append]
      simpa using h5
    case z6 =>
      intro h₂ C g2 all h3 tk3 B3 F3 N3
      have Xg := X.keeps B3.stays
      have Tg := T.keeps B3.stays
      k_steps
      all_goals first | assumption | rfl | decide
    case z7 =>
      rintro h₂ I1 C D2 I2 k v o2 g2 hk hP S2 hne
      intro j u ys g3 oI oC m₂ l h3 tk3 hj hP1 hP2 S3 B3 F3 hC hx hx0 N3 ne off; refine hideG fun G0 k0 => ?_; obtain ⟨tj, rfl⟩ := hP1; obtain ⟨led3, rfl, offI, h1, h2, h3', h4, w', hw, h5⟩ := hP2; refine k0 ?_; clear k0 G0
      refine hideG fun G0 k0 => ?_; obtain ⟨a, us, ka, w2, rfl, hm, hus, hw2⟩ := hnl.at (by simpa using hP); refine k0 ?_; clear k0 G0
      rw [hw] at hw2; cases hw2
      have N4 : News g3 L h3 ((a, W.listOf us.toArray ka) :: (I2, oI) :: (C, oC) :: (D2, lst ys) :: (I1, o2) :: led3) := fun q hq => by
        rcases List.mem_cons.mp hq with rfl | hq
        · exact N3 _ (.tail _ (.tail _ (.tail _ (.tail _ (h1 _ (.tail _ (.tail _ hm)))))))
        · exact N3 q hq
      have Xg := X.keeps B3.stays
      have Tg := T.keeps B3.stays
      refine wpAny_tests_one ?_
      k_steps
      · rename_i hany
        refine ⟨g3, (I1, o2) :: led3, h3, tk3, rfl, Slid.refl .., F3, news_sub N4 (fun q hq => .tail _ hq), off, led3, rfl, offI, h1, h2, by omega, by omega, w', hw, ?_⟩
        have e : ((0 : Int) + (j : Int)) = (j : Int) := by omega
        rw [e, any_mem] at hany
        rw [extN_succ, if_pos (by simpa using hany), List.append_nil]
        exact h5
      · rename_i hany D9 h9 F9 N9 l9
        refine kmk_add_ints F9 N9 ⟨_, (N9 _ (.tail _ (.head _))).1, rfl, _, rfl⟩ ⟨_, (N9 _ (.head _)).1, rfl, _, rfl⟩ hus (.cons _ _ .nil) (fun D8 us8 h8 F8 N8 l8 hI8 => ?_) ?_
        · refine ⟨g3, (I1, o2) :: (D8, W.listOf us8.toArray 0) :: led3, h8, _, rfl, Slid.refl .., F8, ?_, ?_, (D8, W.listOf us8.toArray 0) :: led3, rfl, ?_, fun q hq => .tail _ (h1 q hq), h2, by omega, ?_, w', hw, ?_⟩
          · refine news_sub N8 fun q hq => ?_
            simp only [List.mem_cons] at hq ⊢
            rcases hq with e | e | e | e | e | e
            · exact .inr (.inr (.inr (.inl e)))
            · exact .inr (.inr (.inr (.inr (.inl e))))
            · exact .inr (.inr (.inr (.inr (.inr (.inl e)))))
            · exact .inr (.inr (.inr (.inr (.inr (.inr (.inl e))))))
            · exact .inl e
            · exact .inr (.inr (.inr (.inr (.inr (.inr (.inr e))))))
          · intro q hq
            have hn : ∀ r ∈ (D9, W.listOf #[Value.int (0 + (j : Int)) tj] 0) :: (a, W.listOf us.toArray ka) :: (I2, oI) :: (C, oC) :: (D2, lst ys) :: (I1, o2) :: led3, @Ne Nat D8 r.1 := fun r hr => Ne.symm (Nat.ne_of_lt (l8 r hr))
            revert q; refine all_cons (off _ (.head _)) ?_; refine all_cons (⟨hn (I2, oI) (by simp), hn (C, oC) (by simp), hn (D2, lst ys) (by simp)⟩) ?_; intro q hq; exact off _ (.tail _ hq)
          · intro q hq
            revert q; refine all_cons (Ne.symm (Nat.ne_of_lt (l8 (I1, o2) (by simp)))) ?_; intro q hq; exact offI q hq
          · simp only [List.length_append, List.length_singleton]; omega
          · have e : ((0 : Int) + (j : Int)) = (j : Int) := by omega
            rw [e, any_mem] at hany
            rw [e] at hI8
            rw [extN_succ, if_neg (by simpa using hany), ← List.append_assoc]
            exact .snoc (h5.mono fun q hq => by rw [mem_offL] at hq ⊢; exact ⟨.tail _ hq.1, hq.2⟩) (mem_offL.mpr ⟨.head _, Ne.symm (Nat.ne_of_lt (l8 (I, o) (by simp [h1 (I, o) (.head _)])))⟩) hI8
        · have := nests_ulen (by omega) hw
          show w'.length + 1 ≤ sizeLine
          exact Nat.le_trans (show w'.length + 1 ≤ 100 by omega) (by decide)
    case fin =>
      intro ys D2 g2 led2 h2 tk2 hP1 S2 B2 F2 N2 off2; refine hideG fun G0 k0 => ?_; obtain ⟨h1, h2', h3, h4⟩ := hP1; refine k0 ?_; clear k0 G0
      dsimp only
      k_steps
      show Goes envs g' L _ _ _
      refine ⟨g2, _, (I, o) :: (D2, lst ys) :: offL I led2, h2, _, rfl, S2, F2, ?_, _, rfl, ⟨some (.int (0 + (i : Int)) tv), D2, ys, _, ys.length, ?_, rfl, ?_⟩, ?_⟩
      · refine news_sub N2 fun q hq => ?_
        revert q; refine all_cons (.tail _ (h1 _ (.head _))) ?_; refine all_cons (.head _) ?_; intro q hq; exact .tail _ (mem_offL.mp hq).1
      · funext y
        by_cases e : y = Str.ofString "turn"
        · subst e; rfl
        · by_cases e2 : y = Str.ofString "nests"
          · subst e2; rfl
          · simp [e, e2]
      · have e : (nestsN i).take vs.toArray.size = nestsN i := List.take_of_length_le (by rw [List.size_toArray]; omega)
        rw [e] at h4
        exact h4
      · intro q hq
        revert q; refine all_cons (Ne.symm (off2 (I, o) (h1 _ (.head _)))) ?_; intro q hq; exact (mem_offL.mp hq).2
  · intro g' m' l h tk' hP1 Sl B' F' N'; refine hideG fun G0 k0 => ?_; obtain ⟨ov, D, vs, led, kk, rfl, rfl, hnl⟩ := hP1; refine k0 ?_; clear k0 G0
    dsimp only
    k_steps
    show BodyQ g L envs s _ (.ret (.ref D)) _
    exact ⟨g', _, _, h, _, rfl, Sl, F', N', D, vs, led, kk, rfl, rfl, hnl⟩
end
end Mine
end

section
open PySem PySem.Spec PySem.Calls PySem.W PyProof.Rows PyProof.Rows.LCg PySem.SeqAt
set_option Elab.async false
set_option maxRecDepth 100000
set_option maxHeartbeats 16000000
set_option linter.unusedVariables false
namespace Mine
theorem k_item {a b c d : Int} {ta tb tc td : Tok} {z : Int} (h : 0 ≤ z ∧ z ≤ 3) : ∃ x t, #[Value.int a ta, .int b tb, .int c tc, .int d td][z.toNat]? = some (.int x t) ∧ [a, b, c, d].getD z.toNat 0 = x := by
  rcases or4i h with rfl | rfl | rfl | rfl <;> exact ⟨_, _, rfl, rfl⟩
theorem k_rng {a b c d z : Int} (hr : ∀ x ∈ [a, b, c, d], 0 ≤ x ∧ x ≤ 9) (h : 0 ≤ z ∧ z ≤ 3) : 0 ≤ [a, b, c, d].getD z.toNat 0 ∧ [a, b, c, d].getD z.toNat 0 ≤ 9 := by
  rcases or4i h with rfl | rfl | rfl | rfl
  · exact hr a (by simp)
  · exact hr b (by simp)
  · exact hr c (by simp)
  · exact hr d (by simp)
theorem map_atI (f : Int → Int) (l : List Int) : ((List.range l.length).filter fun _ => true).map (fun k => f (l.getD k 0)) = l.map f := by
  have e := filter_getD (fun _ => true) l
  have : ((List.range l.length).filter fun _ => true).map (fun k => f (l.getD k 0)) = (((List.range l.length).filter fun _ => true).map (fun k => l.getD k 0)).map f := by rw [List.map_map]; rfl
  rw [this, e, List.filter_eq_self.mpr (fun _ _ => rfl)]
theorem len4 {α : Type} {u : List α} (h : u.length = 4) : ∃ x y z t, u = [x, y, z, t] := by
  match u, h with
  | [x, y, z, t], _ => exact ⟨x, y, z, t, rfl⟩
theorem law_intro {K : Frag} {P : List Stmt → Scope → Str → Prop} {f : Addr} {name qual : Str} {params : Arguments} {body : List Stmt} {scope : Scope} {dV kV doc pm cdv ct oc : Value} {an od : Option Addr} {osl : Array (Option Value)}
    (ho : K.lookup f = some ⟨oc, od, .func (fnOf name qual params body scope dV kV doc pm an cdv ct), osl⟩) (h : P body scope qual) {name' qual' : Str} {params' : Arguments} {body' : List Stmt} {scope' : Scope} {dV' kV' doc' pm' cdv' ct' oc' : Value} {an' od' : Option Addr} {osl' : Array (Option Value)}
    (ho' : K.lookup f = some ⟨oc', od', .func (fnOf name' qual' params' body' scope' dV' kV' doc' pm' an' cdv' ct'), osl'⟩) : P body' scope' qual' := by
  rw [ho] at ho'
  cases ho'
  exact h
noncomputable def LawP (w : World) (p : Program) (loose : List Str) (mean : ExcName → Option Value) (mg mb : Str → Option Value) (base : Heap) (body : List Stmt) (scope : Scope) (qual : Str) : Prop :=
  ∀ (dp un : Nat) (envs : List Env) (gd : Option (List Code)) (s : Shared) (g : Heap) (L : Addr) (h₁ : Heap) (tk : Nat) (f : Addr) (cdv : Value) (la : Addr) (vs : List Value) (ns : List Int) (mm : Str → Option Value) (o1 o2 : Obj) (v1 v2 : Option Value) (Q : Flow → Shared → Prop) (E : Value → Shared → Prop),
    dp + 40 < recursionLimit → un + 3000 ≤ 5000 → Below (Ar dp envs gd un) base envs g → Top p loose mean mg mb base → base.IsList la vs.toArray → IntsAre vs ns → ns.length ≤ 63 →
    Fr g L h₁ (fun y => if y = Str.ofString "script" then some (.ref la) else mm y) → News g L h₁ [(L + 1 + 1, o2), (L + 1, o1)] → o1.data = .cell v1 → o2.data = .cell v2 →
    (∀ g' h' tk', Slid (fra envs) g g' → g'.StaysIn h' → Q (.ret (.bool true)) { s with heap := h', toks := tk' }) →
    wpAny (MG w) ((Ar dp envs gd un).deeper (envOfC qual scope L f cdv)) (execs body (envOfC qual scope L f cdv)) Q E { s with heap := h₁, toks := tk }
section
variable {w : World} {base : Heap} {p : Program} {loose : List Str} {mean : ExcName → Option Value} {mg mb : Str → Option Value}
theorem law_body (X : (k0.heap_1 w.params).In base) {name' qual' : Str} {params' : Arguments} {body' : List Stmt} {scope' : Scope} {dV' kV' doc' pm' cdv' ct' oc' : Value} {an' od' : Option Addr} {osl' : Array (Option Value)}
    (ho' : (k0.heap_1 w.params).lookup 374 = some ⟨oc', od', .func (fnOf name' qual' params' body' scope' dV' kV' doc' pm' an' cdv' ct'), osl'⟩) : LawP w p loose mean mg mb base body' scope' qual' := by
  k_with_none
  k_with "sub1" => with_reducible (first | exact List.mem_cons_self | exact sub_refl | (refine List.mem_cons_of_mem _ ?_; walk_at "sub1") | (refine sub_tail ?_; walk_at "sub1") | (refine List.mem_append_left _ ?_; walk_at "sub1") | (refine List.mem_append_right _ ?_; walk_at "sub1") | (refine sub_left ?_; walk_at "sub1") | (refine sub_right ?_; walk_at "sub1") | assumption)
  k_with "sub" => with_reducible (first | exact sub_nil | (refine sub_cons ?_ ?_; (· walk_at "sub1"); walk_at "sub") | (refine sub_app ?_ ?_; (· walk_at "sub"); walk_at "sub") | walk_at "sub1")
  k_with "call ref" => refine here ?_
  k_with "eval ListComp" => refine here ?_
  k_with "exec Assign cons ListComp" => refine here ?_
  k_with "compareOp NotEq ref ref" => refine here ?_
  k_with "compareOp Eq ref ref" => refine here ?_
  k_with "subscriptTail Name Name ref int" => (k_dflt (refine' sub_int ?N ?m ?h0 ?h1 ?hx ?_ ?hs; (case N => k_asm); (case m => k_mem); (case h0 => omega); (case h1 => omega); (case hx => assumption); (case hs => with_unfolding_all rfl); k_whole))
  k_with "k_all" => assumption
  k_with "k_ne" => omega
  k_with "k_ne" => first | assumption | (refine Ne.symm ?_; assumption)
  refine' law_intro (P := LawP w p loose mean mg mb base) ?ho ?h ho'
  k_dflt ((case ho => k_is))
  intro dp un envs gd s g L h₁ tk f cdv la vs ns mm o1 o2 v1 v2 Q E hdp hun B T hbl hi hl F N d1 d2 hQ
  have Xg := X.keeps B.stays
  have Tg := T.keeps B.stays
  try k_fold
  k_steps
  refine here ?_
  refine Con.use (env := envOfC (Str.ofString "law") _ L f cdv) (rest := [(L + 1 + 1, o2), (L + 1, o1)]) (four_con X T la vs ns hbl hi hl) B F N rfl rfl (dp_le (a := 2) hdp (by decide)) (un_le (a := 103) hun (by decide)) (fun q hq => nomatch hq) (fun q hq => ⟨hq, fun hm => nomatch hm⟩) ?_ (fun _ _ _ _ _ h => h.elim)
  intro v led g1 h1 tk1 hP1 S1 B1 F1 N1 ap1; refine hideG fun G0 k0 => ?_; obtain ⟨K, a, b, c, d, ta, tb, tc, td, kD, rfl, rfl, hnd, hrng⟩ := hP1; refine k0 ?_; clear k0 G0
  clear F N Xg Tg
  have Xg := X.keeps B1.stays
  have Tg := T.keeps B1.stays
  simp only [List.cons_append, List.nil_append] at N1
  have k1 : @Ne Nat K (L + 1) := ap1 (K, PySem.W.listOf #[.int a ta, .int b tb, .int c tc, .int d td] kD) (.head _) (L + 1, o1) (by walk_at "sub1")
  have k2 : @Ne Nat K (L + 1 + 1) := ap1 (K, PySem.W.listOf #[.int a ta, .int b tb, .int c tc, .int d td] kD) (.head _) (L + 1 + 1, o2) (by walk_at "sub1")
  clear ap1
  k_steps
  rename_i h2 o1' F2 N2 d1'
  refine here ?_
  refine Con.use (env := envOfC (Str.ofString "law") _ L f cdv) (rest := [(K, PySem.W.listOf #[.int a ta, .int b tb, .int c tc, .int d td] kD), (L + 1 + 1, o2), (L + 1, o1')]) (faults_con X T) B1 F2 N2 rfl rfl (dp_le (a := 6) hdp (by decide)) (un_le (a := 503) hun (by decide)) (fun q hq => nomatch hq) (fun q hq => ⟨hq, fun hm => nomatch hm⟩) ?_ (fun _ _ _ _ _ h => h.elim)
  intro v led g3 h3 tk3 hP1 S3 B3 F3 N3 ap3; refine hideG fun G0 k0 => ?_; obtain ⟨lf, fs, el, nf, rfl, rfl, hx⟩ := hP1; refine k0 ?_; clear k0 G0
  clear F2 N2 Xg Tg
  have Xg := X.keeps B3.stays
  have Tg := T.keeps B3.stays
  have f1 : @Ne Nat lf K := ap3 (lf, PySem.W.listOf (errArr fs) nf) (.head _) (K, PySem.W.listOf #[.int a ta, .int b tb, .int c tc, .int d td] kD) (by walk_at "sub1")
  have f2 : @Ne Nat lf (L + 1 + 1) := ap3 (lf, PySem.W.listOf (errArr fs) nf) (.head _) (L + 1 + 1, o2) (by walk_at "sub1")
  have f3 : @Ne Nat lf (L + 1) := ap3 (lf, PySem.W.listOf (errArr fs) nf) (.head _) (L + 1, o1') (by walk_at "sub1")
  have N4 : News g3 L h3 ((lf, PySem.W.listOf (errArr fs) nf) :: (K, PySem.W.listOf #[.int a ta, .int b tb, .int c tc, .int d td] kD) :: (L + 1 + 1, o2) :: (L + 1, o1') :: el) := news_sub N3 (by walk_at "sub")
  have e1 : ∀ q ∈ el, q.1 ≠ L + 1 + 1 := fun q hq => ap3 q (.tail _ hq) (L + 1 + 1, o2) (by walk_at "sub1")
  have hE1 : @Ne Nat (L + 1) (L + 1 + 1) := by omega
  clear N3 ap3
  k_steps
  rename_i h4 o2' F4 N5 d2'
  refine here ?_
  refine Con.use (env := envOfC (Str.ofString "law") _ L f cdv) (rest := (lf, PySem.W.listOf (errArr fs) nf) :: (K, PySem.W.listOf #[.int a ta, .int b tb, .int c tc, .int d td] kD) :: (L + 1 + 1, o2') :: (L + 1, o1') :: el) (nests_con X T) B3 F4 N5 rfl rfl (dp_le (a := 2) hdp (by decide)) (un_le (a := 103) hun (by decide)) (fun q hq => nomatch hq) (fun q hq => ⟨hq, fun hm => nomatch hm⟩) ?_ (fun _ _ _ _ _ h => h.elim)
  intro v led g5 h5 tk5 hP1 S5 B5 F5 N6 ap5; refine hideG fun G0 k0 => ?_; obtain ⟨Dw, wv, nl, kw, rfl, rfl, hnl⟩ := hP1; refine k0 ?_; clear k0 G0
  clear F4 N5 Xg Tg e1
  have Xg := X.keeps B5.stays
  have Tg := T.keeps B5.stays
  have N7 : News g5 L h5 ((Dw, PySem.W.listOf wv.toArray kw) :: (lf, PySem.W.listOf (errArr fs) nf) :: (K, PySem.W.listOf #[.int a ta, .int b tb, .int c tc, .int d td] kD) :: (L + 1 + 1, o2') :: (L + 1, o1') :: (nl ++ el)) := news_sub N6 (by walk_at "sub")
  have w1 : @Ne Nat Dw lf := ap5 _ (.head _) (lf, PySem.W.listOf (errArr fs) nf) (.head _)
  have w4 : ∀ q ∈ nl, q.1 ≠ K := fun q hq => ap5 q (.tail _ hq) (K, PySem.W.listOf #[.int a ta, .int b tb, .int c tc, .int d td] kD) (by walk_at "sub1")
  have w2 : ∀ q ∈ nl, q.1 ≠ lf := fun q hq => ap5 q (.tail _ hq) (lf, PySem.W.listOf (errArr fs) nf) (.head _)
  have w3 : ∀ q ∈ el, ∀ r ∈ nl, q.1 ≠ r.1 := fun q hq r hr => Ne.symm (ap5 r (.tail _ hr) q (by walk_at "sub1"))
  clear N6 ap5
  k_steps
  rename_i h6 F6 N8
  have hwl := hnl.len
  have hw24 : wv.length ≤ 24 := by rw [hwl]; exact nests_len 4 (by decide)
  refine hideQ fun Q1 E1 hQ1 hE1 => ?_
  refine AssignComp_J (by with_unfolding_all rfl) (by with_unfolding_all rfl) (by rfl) (by decide) ?_ (fun _ => rfl)
  k_steps
  refine src_A (L := L) (source_list (k := kw) (by rfl) F6 N8 (.head _)) (fun q hq => by rw [List.mem_singleton.mp hq]; exact .head _)
    (fun j ys l => Sel (fun j v => wv.toArray[j]? = some v) (fun j => own (((nestsN 4).getD j []).map fun k => [a, b, c, d].getD k.toNat 0)) j ys ∧ (j ≤ wv.toArray.size ∧ ∃ el', l = (Dw, PySem.W.listOf wv.toArray kw) :: (lf, PySem.W.listOf (errArr fs) nf) :: (K, PySem.W.listOf #[.int a ta, .int b tb, .int c tc, .int d td] kD) :: (L + 1 + 1, o2') :: (L + 1, o1') :: (nl ++ el') ∧ Errs fs el' ∧ ∀ q ∈ el', ∀ r ∈ nl, q.1 ≠ r.1))
    (fun j ys l hj q hq => by obtain ⟨_, _, el', rfl, _, _⟩ := hj; rw [List.mem_singleton.mp hq]; exact .head _) (fun j ys l hj => Nat.le_trans hj.1.len (Nat.le_trans hj.2.1 (by rw [List.size_toArray]; exact Nat.le_trans hw24 (by decide)))) B5 ⟨.zero, Nat.zero_le _, el, rfl, hx, w3⟩ (turns_filt (L := L) ?turn (by rfl) (by rfl) (by decide)) ?fin (by decide) (by rfl) (by rfl) rfl (by rfl) (by rfl)
  case turn =>
    intro hx7 I C D j v ys g7 oI oC m₂ led7 h7 tk7 hj hP hK S7 B7 F7 hC hx2 N9 ne off
    refine hideG fun G0 k0 => ?_; obtain ⟨_, el7, rfl, hxe, ane⟩ := hK; refine k0 ?_; clear k0 G0
    clear F6 N8 Xg Tg
    have Xg := X.keeps B7.stays
    have Tg := T.keeps B7.stays
    refine hideG fun G0 k0 => ?_; obtain ⟨aw, us, ku, u, rfl, hma, hua, hwa⟩ := hnl.at (by simpa using hP); refine k0 ?_; clear k0 G0
    have hu4 := nests_rng u (List.mem_of_getElem? hwa)
    have N10 : News g7 L h7 ((aw, PySem.W.listOf us.toArray ku) :: (I, oI) :: (C, oC) :: (D, lst ys) :: (Dw, PySem.W.listOf wv.toArray kw) :: (lf, PySem.W.listOf (errArr fs) nf) :: (K, PySem.W.listOf #[.int a ta, .int b tb, .int c tc, .int d td] kD) :: (L + 1 + 1, o2') :: (L + 1, o1') :: (nl ++ el7)) := fun q hq => by
      rcases List.mem_cons.mp hq with rfl | hq
      · exact N9 _ (.tail _ (.tail _ (.tail _ (.tail _ (.tail _ (.tail _ (.tail _ (.tail _ (List.mem_append_left _ hma)))))))))
      · exact N9 q hq
    refine hideQ fun Q2 E2 hQ2 hE2 => ?_
    k_steps
    refine ListComp_J (by with_unfolding_all rfl) (by rfl) (by decide) ?_ (fun _ => rfl)
    k_steps
    refine map_pure (L := L) (fun k y => ∃ t, y = .int ([a, b, c, d].getD (u.getD k 0).toNat 0) t) (source_list (k := ku) (by rfl) F7 N10 (.head _)) (fun q hq => by rw [List.mem_singleton.mp hq]; exact .head _) (by rw [List.size_toArray, hua.length, hu4.1]; decide) B7 ?_ ?_ (by decide) (by rfl) (by rfl)
    · intro hx8 I2 C2 D2 k v zs g8 oI2 oC2 m2 h8 tk8 hk hP8 S8 B8 F8 hC8 hx28 N11 ne8 off8
      clear F7 N9 N10 Xg Tg
      have Xg := X.keeps B8.stays
      have Tg := T.keeps B8.stays
      obtain ⟨tz, rfl⟩ := ints_at hua (by simpa using hP8)
      have hk4 : k < u.length := by rw [← hua.length]; simpa using hk
      have hz : 0 ≤ u.getD k 0 ∧ u.getD k 0 ≤ 3 := hu4.2 _ (by rw [List.getD_eq_getElem?_getD, List.getElem?_eq_getElem hk4]; exact List.getElem_mem _)
      refine hideG fun G0 k0 => ?_; obtain ⟨x, tx, hget, hxe2⟩ := k_item (a := a) (b := b) (c := c) (d := d) (ta := ta) (tb := tb) (tc := tc) (td := td) hz; refine k0 ?_; clear k0 G0
      generalize hzz : u.getD k 0 = z at *
      refine hideQ fun Q3 E3 hQ3 hE3 => ?_
      k_steps
      exact hQ3 _ _ ⟨⟨tx, by rw [hxe2]⟩, g8, _, h8, _, rfl, Slid.refl .., F8, N11, off8, rfl⟩
    · intro zs D9 g9 h9 tk9 hs9 S9 B9 F9 N12 off9
      clear F7 N9 N10 Xg Tg
      have Xg := X.keeps B9.stays
      have Tg := T.keeps B9.stays
      have hzs : IntsAre zs (u.map fun k => [a, b, c, d].getD k.toNat 0) := by
        have h1 := Sel.ints (f := fun k => [a, b, c, d].getD (u.getD k 0).toNat 0) hs9
        rw [List.size_toArray, hua.length, map_atI (fun k => [a, b, c, d].getD k.toNat 0) u] at h1
        exact h1
      clear hs9
      refine hideG fun G0 k0 => ?_; obtain ⟨u0, u1, u2, u3, rfl⟩ := len4 hu4.1; refine k0 ?_; clear k0 G0
      refine hideG fun G0 k0 => ?_; obtain ⟨t0, t1, t2, t3, rfl⟩ := ints4 hzs; refine k0 ?_; clear k0 G0
      have hr := hu4.2
      k_steps
      have hkr := k_rng hrng (hr u0 (by walk_at "sub1"))
      have hkr1 := k_rng hrng (hr u1 (by walk_at "sub1"))
      have hkr2 := k_rng hrng (hr u2 (by walk_at "sub1"))
      have hkr3 := k_rng hrng (hr u3 (by walk_at "sub1"))
      have hpj : own (((nestsN 4).getD j []).map fun k => [a, b, c, d].getD k.toNat 0) = own [[a, b, c, d].getD u0.toNat 0, [a, b, c, d].getD u1.toNat 0, [a, b, c, d].getD u2.toNat 0, [a, b, c, d].getD u3.toNat 0] := by
        rw [List.getD_eq_getElem?_getD, hwa]; rfl
      have lfD9 : lf ≠ D9 := off9 (lf, PySem.W.listOf (errArr fs) nf) (by walk_at "sub1")
      have mEl : ∀ q ∈ el7, q ∈ (aw, PySem.W.listOf us.toArray ku) :: (I, oI) :: (C, oC) :: (D, lst ys) :: (Dw, PySem.W.listOf wv.toArray kw) :: (lf, PySem.W.listOf (errArr fs) nf) :: (K, PySem.W.listOf #[.int a ta, .int b tb, .int c tc, .int d td] kD) :: (L + 1 + 1, o2') :: (L + 1, o1') :: (nl ++ el7) := (by walk_at "sub")
      have mEl2 : ∀ q ∈ el7, q ∈ (D9, lst [Value.int ((fun k => [a, b, c, d].getD k.toNat 0) u0) t0, Value.int ((fun k => [a, b, c, d].getD k.toNat 0) u1) t1, Value.int ((fun k => [a, b, c, d].getD k.toNat 0) u2) t2, Value.int ((fun k => [a, b, c, d].getD k.toNat 0) u3) t3]) :: (aw, PySem.W.listOf us.toArray ku) :: (I, oI) :: (C, oC) :: (D, lst ys) :: (Dw, PySem.W.listOf wv.toArray kw) :: (lf, PySem.W.listOf (errArr fs) nf) :: (K, PySem.W.listOf #[.int a ta, .int b tb, .int c tc, .int d td] kD) :: (L + 1 + 1, o2') :: (L + 1, o1') :: (nl ++ el7) := fun q hq => .tail _ (mEl q hq)
      have apE : ∀ r ∈ (I, oI) :: (C, oC) :: (D, lst ys) :: (Dw, PySem.W.listOf wv.toArray kw) :: (K, PySem.W.listOf #[.int a ta, .int b tb, .int c tc, .int d td] kD) :: (L + 1 + 1, o2') :: (L + 1, o1') :: nl, ∀ q ∈ el7, q.1 ≠ r.1 := fun r hr' q hq => by
        have ho := off q (by walk_at "sub1")
        simp only [List.mem_cons] at hr'
        rcases hr' with rfl | rfl | rfl | rfl | rfl | rfl | rfl | hr'
        · exact ho.1
        · exact ho.2.1
        · exact ho.2.2
        · exact hxe.ne N12 mEl2 (a := Dw) (o := PySem.W.listOf wv.toArray kw) (by walk_at "sub1") (fun vs h => by cases h) q hq
        · exact hxe.ne N12 mEl2 (a := K) (o := PySem.W.listOf #[.int a ta, .int b tb, .int c tc, .int d td] kD) (by walk_at "sub1") (fun vs h => by cases h) q hq
        · exact hxe.ne N12 mEl2 (a := L + 1 + 1) (o := o2') (by walk_at "sub1") (fun vs h => by rw [d2'] at h; cases h) q hq
        · exact hxe.ne N12 mEl2 (a := L + 1) (o := o1') (by walk_at "sub1") (fun vs h => by rw [d1'] at h; cases h) q hq
        · exact ane q hq r hr'
      have apL : ∀ r ∈ (I, oI) :: (C, oC) :: (D, lst ys) :: (Dw, PySem.W.listOf wv.toArray kw) :: (K, PySem.W.listOf #[.int a ta, .int b tb, .int c tc, .int d td] kD) :: (L + 1 + 1, o2') :: (L + 1, o1') :: nl, r.1 ≠ lf := fun r hr' => by
        have ho := off (lf, PySem.W.listOf (errArr fs) nf) (by walk_at "sub1")
        simp only [List.mem_cons] at hr'
        rcases hr' with rfl | rfl | rfl | rfl | rfl | rfl | rfl | hr'
        · exact Ne.symm ho.1
        · exact Ne.symm ho.2.1
        · exact Ne.symm ho.2.2
        · exact w1
        · exact Ne.symm f1
        · exact Ne.symm f2
        · exact Ne.symm f3
        · exact w2 r hr'
      have mR : ∀ r ∈ (I, oI) :: (C, oC) :: (D, lst ys) :: (Dw, PySem.W.listOf wv.toArray kw) :: (K, PySem.W.listOf #[.int a ta, .int b tb, .int c tc, .int d td] kD) :: (L + 1 + 1, o2') :: (L + 1, o1') :: nl, r ∈ (aw, PySem.W.listOf us.toArray ku) :: (I, oI) :: (C, oC) :: (D, lst ys) :: (Dw, PySem.W.listOf wv.toArray kw) :: (lf, PySem.W.listOf (errArr fs) nf) :: (K, PySem.W.listOf #[.int a ta, .int b tb, .int c tc, .int d td] kD) :: (L + 1 + 1, o2') :: (L + 1, o1') :: (nl ++ el7) := fun r hr' => by
        revert r; walk_at "sub"
      refine Con.useV (env := envOfC (Str.ofString "law") _ L f cdv) (rest := (I, oI) :: (C, oC) :: (D, lst ys) :: (Dw, PySem.W.listOf wv.toArray kw) :: (K, PySem.W.listOf #[.int a ta, .int b tb, .int c tc, .int d td] kD) :: (L + 1 + 1, o2') :: (L + 1, o1') :: nl) (own_con X T D9 lf 4 nf fs el7 _ _ _ _ t0 t1 t2 t3 hxe hkr hkr1 hkr2 hkr3 lfD9) B9 F9 N12 rfl rfl (dp_le (a := 7) hdp (by decide)) (un_le (a := 603) hun (by decide))
        (fun q hq => ?_) (fun q hq => ⟨.tail _ (mR q hq), fun hm => ?_⟩) ?_ (fun _ _ _ _ _ h => h.elim)
      · rcases List.mem_cons.mp hq with rfl | hq
        · exact .head _
        rcases List.mem_cons.mp hq with rfl | hq
        · simp
        · exact mEl2 q hq
      · rcases List.mem_cons.mp hm with e | hm
        · exact off9 q (mR q hq) e
        rcases List.mem_cons.mp hm with e | hm
        · exact apL q hq e
        · refine hideG fun G0 k0 => ?_; obtain ⟨r, hr', e⟩ := List.mem_map.mp hm; refine k0 ?_; clear k0 G0
          exact apE q hq r hr' e
      · intro led g10 h10 tk10 hP1 S10 B10 F10 N13 ap10; refine hideG fun G0 k0 => ?_; obtain ⟨el10, rfl, hxe10⟩ := hP1; refine k0 ?_; clear k0 G0
        clear N12 F9 Xg Tg
        have Xg := X.keeps B10.stays
        have Tg := T.keeps B10.stays
        clear apE apL mEl mEl2
        k_steps
        refine hQ2 _ _ ⟨hpj.symm, g10, (Dw, PySem.W.listOf wv.toArray kw) :: (lf, PySem.W.listOf (errArr fs) nf) :: (K, PySem.W.listOf #[.int a ta, .int b tb, .int c tc, .int d td] kD) :: (L + 1 + 1, o2') :: (L + 1, o1') :: (nl ++ el10), h10, _, rfl, S9.trans S10, F10, news_sub N13 fun q hq => ?_, fun q hq => ?_, hj, el10, rfl, hxe10, fun q hq r hr' => ap10 q (.tail _ (.tail _ hq)) r (by walk_at "sub1")⟩
        · have hq' : q ∈ (lf, PySem.W.listOf (errArr fs) nf) :: el10 ∨ q ∈ (I, oI) :: (C, oC) :: (D, lst ys) :: (Dw, PySem.W.listOf wv.toArray kw) :: (K, PySem.W.listOf #[.int a ta, .int b tb, .int c tc, .int d td] kD) :: (L + 1 + 1, o2') :: (L + 1, o1') :: nl := by
            simp only [List.mem_cons, List.mem_append] at hq ⊢
            rcases hq with h | h | h | h | h | h | h | h | h | h <;> simp [h]
          rcases hq' with h | h
          · exact List.mem_append_left _ (.tail _ h)
          · exact List.mem_append_right _ h
        · have hq' : q ∈ el10 ∨ q ∈ (Dw, PySem.W.listOf wv.toArray kw) :: (lf, PySem.W.listOf (errArr fs) nf) :: (K, PySem.W.listOf #[.int a ta, .int b tb, .int c tc, .int d td] kD) :: (L + 1 + 1, o2') :: (L + 1, o1') :: (nl ++ el7) := by
            simp only [List.mem_cons, List.mem_append] at hq ⊢
            rcases hq with h | h | h | h | h | h | h <;> simp [h]
          rcases hq' with h | h
          · exact ⟨ap10 q (.tail _ (.tail _ h)) (I, oI) (.head _), ap10 q (.tail _ (.tail _ h)) (C, oC) (.tail _ (.head _)), ap10 q (.tail _ (.tail _ h)) (D, lst ys) (.tail _ (.tail _ (.head _)))⟩
          · exact off q h
  case fin =>
    intro gv G g7 led7 h7 tk7 hP1 S7 B7 F7 N9 offG; refine hideG fun G0 k0 => ?_; obtain ⟨hs7, _, el7, rfl, hx7, ane7⟩ := hP1; refine k0 ?_; clear k0 G0
    clear F6 N8 Xg Tg w3 hx
    have Xg := X.keeps B7.stays
    have Tg := T.keeps B7.stays
    have hgood : NL nl gv (goodN [a, b, c, d]) := by
      exact hnl.good hs7
    clear hs7
    refine hQ1 _ _ ?_
    clear hQ1 hE1 Q1 E1
    dsimp only
    k_steps
    refine ListComp_J (by with_unfolding_all rfl) (by rfl) (by decide) ?_ (fun _ => rfl)
    k_steps
    refine filt_pure (L := L) (fun j => noWider (((nestsN 4).getD j []).map fun k => [a, b, c, d].getD k.toNat 0)) (source_list (k := kw) (by rfl) F7 N9 (.tail _ (.head _))) (fun q hq => by rw [List.mem_singleton.mp hq]; exact .tail _ (.head _)) (by rw [List.size_toArray]; exact Nat.le_trans hw24 (by decide)) B7 ?_ ?_ (by decide) (by rfl) (by rfl) (by decide)
    · intro hx8 I C D j v ys g8 oI oC m₂ h8 tk8 hj hP S8 B8 F8 hC hx2 N10 ne off
      clear F7 N9 Xg Tg
      have Xg := X.keeps B8.stays
      have Tg := T.keeps B8.stays
      refine hideG fun G0 k0 => ?_; obtain ⟨aw, us, ku, u, rfl, hma, hua, hwa⟩ := hnl.at (by simpa using hP); refine k0 ?_; clear k0 G0
      have hu4 := nests_rng u (List.mem_of_getElem? hwa)
      have N11 : News g8 L h8 ((aw, PySem.W.listOf us.toArray ku) :: (I, oI) :: (C, oC) :: (D, lst ys) :: (G, lst gv) :: (Dw, PySem.W.listOf wv.toArray kw) :: (lf, PySem.W.listOf (errArr fs) nf) :: (K, PySem.W.listOf #[.int a ta, .int b tb, .int c tc, .int d td] kD) :: (L + 1 + 1, o2') :: (L + 1, o1') :: (nl ++ el7)) := fun q hq => by
        rcases List.mem_cons.mp hq with rfl | hq
        · exact N10 _ (.tail _ (.tail _ (.tail _ (.tail _ (.tail _ (.tail _ (.tail _ (.tail _ (.tail _ (List.mem_append_left _ hma))))))))))
        · exact N10 q hq
      refine hideQ fun Q2 E2 hQ2 hE2 => ?_
      k_steps
      refine ListComp_J (by with_unfolding_all rfl) (by rfl) (by decide) ?_ (fun _ => rfl)
      k_steps
      refine map_pure (L := L) (fun k y => ∃ t, y = .int ([a, b, c, d].getD (u.getD k 0).toNat 0) t) (source_list (k := ku) (by rfl) F8 N11 (.head _)) (fun q hq => by rw [List.mem_singleton.mp hq]; exact .head _) (by rw [List.size_toArray, hua.length, hu4.1]; decide) B8 ?_ ?_ (by decide) (by rfl) (by rfl)
      · intro hx9 I2 C2 D2 k v zs g9 oI2 oC2 m2 h9 tk9 hk hP8 S9 B9 F9 hC8 hx28 N12 ne8 off8
        clear F8 N10 N11 Xg Tg
        have Xg := X.keeps B9.stays
        have Tg := T.keeps B9.stays
        obtain ⟨tz, rfl⟩ := ints_at hua (by simpa using hP8)
        have hk4 : k < u.length := by rw [← hua.length]; simpa using hk
        have hz : 0 ≤ u.getD k 0 ∧ u.getD k 0 ≤ 3 := hu4.2 _ (by rw [List.getD_eq_getElem?_getD, List.getElem?_eq_getElem hk4]; exact List.getElem_mem _)
        refine hideG fun G0 k0 => ?_; obtain ⟨x, tx, hget, hxe2⟩ := k_item (a := a) (b := b) (c := c) (d := d) (ta := ta) (tb := tb) (tc := tc) (td := td) hz; refine k0 ?_; clear k0 G0
        generalize hzz : u.getD k 0 = z at *
        refine hideQ fun Q3 E3 hQ3 hE3 => ?_
        k_steps
        exact hQ3 _ _ ⟨⟨tx, by rw [hxe2]⟩, g9, _, h9, _, rfl, Slid.refl .., F9, N12, off8, rfl⟩
      · intro zs D9 g9 h9 tk9 hs9 S9 B9 F9 N12 off9
        clear F8 N10 N11 Xg Tg
        have Xg := X.keeps B9.stays
        have Tg := T.keeps B9.stays
        have hzs : IntsAre zs (u.map fun k => [a, b, c, d].getD k.toNat 0) := by
          have h1 := Sel.ints (f := fun k => [a, b, c, d].getD (u.getD k 0).toNat 0) hs9
          rw [List.size_toArray, hua.length, map_atI (fun k => [a, b, c, d].getD k.toNat 0) u] at h1
          exact h1
        clear hs9
        refine hideG fun G0 k0 => ?_; obtain ⟨u0, u1, u2, u3, rfl⟩ := len4 hu4.1; refine k0 ?_; clear k0 G0
        refine hideG fun G0 k0 => ?_; obtain ⟨t0, t1, t2, t3, rfl⟩ := ints4 hzs; refine k0 ?_; clear k0 G0
        have hr := hu4.2
        have hpj : noWider (((nestsN 4).getD j []).map fun k => [a, b, c, d].getD k.toNat 0) = noWider [[a, b, c, d].getD u0.toNat 0, [a, b, c, d].getD u1.toNat 0, [a, b, c, d].getD u2.toNat 0, [a, b, c, d].getD u3.toNat 0] := by
          rw [List.getD_eq_getElem?_getD, hwa]; rfl
        k_steps
        refine here ?_
        refine Con.useE (env := envOfC (Str.ofString "law") _ L f cdv) (rest := (I, oI) :: (C, oC) :: (D, lst ys) :: (G, lst gv) :: (Dw, PySem.W.listOf wv.toArray kw) :: (lf, PySem.W.listOf (errArr fs) nf) :: (K, PySem.W.listOf #[.int a ta, .int b tb, .int c tc, .int d td] kD) :: (L + 1 + 1, o2') :: (L + 1, o1') :: (nl ++ el7)) (nw_con X T D9 4 _ _ _ _ t0 t1 t2 t3) B9 F9 N12 rfl rfl (dp_le (a := 2) hdp (by decide)) (un_le (a := 103) hun (by decide))
          (fun q hq => by rw [List.mem_singleton.mp hq]; exact .head _) (fun q hq => ⟨.tail _ (.tail _ hq), fun hm => ?_⟩) ?_ (fun _ _ _ _ _ h => h.elim)
        · have e : q.1 = D9 := by simpa using hm
          exact off9 q (.tail _ hq) e
        · intro g10 h10 tk10 S10 B10 F10 N13 ap10
          clear N12 F9 Xg Tg
          have Xg := X.keeps B10.stays
          have Tg := T.keeps B10.stays
          k_steps
          exact hQ2 _ _ ⟨hpj.symm, g10, _, h10, _, rfl, S9.trans S10, F10, news_sub N13 (fun q hq => .tail _ hq), off, rfl⟩
    · intro gv2 G2 g8 h8 tk8 hs8 S8 B8 F8 N10 offG2
      clear F7 N9 Xg Tg
      have Xg := X.keeps B8.stays
      have Tg := T.keeps B8.stays
      have hgood2 : NL nl gv2 (good2N [a, b, c, d]) := by
        exact hnl.good2 hs8
      clear hs8
      refine hideG fun G0 k0 => ?_; obtain ⟨e2, hne, hP⟩ := law_facts (law_plain hnd hrng); refine k0 ?_; clear k0 G0
      have hl4 := good_all [a, b, c, d]
      have hl24 := good_len [a, b, c, d]
      rw [← e2] at hgood2
      clear e2
      generalize goodN [a, b, c, d] = good at *
      refine hideG fun G0 k0 => ?_; obtain ⟨a0, us0, ku0, hg0, hm0, hi0⟩ := hgood.head hne; refine k0 ?_; clear k0 G0
      refine hideG fun G0 k0 => ?_; obtain ⟨gp, a9, us9, ku9, rfl, hm9, hi9⟩ := hgood.last hne; refine k0 ?_; clear k0 G0
      k_steps
      refine here ?_
      obtain ⟨as1, hr1⟩ := reads_lists N10 (.tail _ (.head _)) (hgood.mono (by walk_at "sub"))
      obtain ⟨as2, hr2⟩ := reads_lists N10 (.head _) (hgood2.mono (by walk_at "sub"))
      refine ne_dataH hr1 hr2 (lists_shaped _) (lists_shaped _) (show un + 3 + 64 < cLine by unfold cLine; omega) ?_
      rw [eqv_lists, Bool.not_true]
      clear hr1 hr2 as1 as2 hgood2
      k_steps
      refine here ?_
      refine Con.use (env := envOfC (Str.ofString "law") _ L f cdv) (rest := (G, lst (gp ++ [Value.ref a9])) :: nl) (waits_con X T K lf kD nf fs el7 a b c d ta tb tc td hx7 (hrng a (by walk_at "sub1")) (hrng b (by walk_at "sub1")) (hrng c (by walk_at "sub1")) (hrng d (by walk_at "sub1")) f1) B8 F8 N10 rfl rfl (dp_le (a := 7) hdp (by decide)) (un_le (a := 603) hun (by decide))
        (fun q hq => ?_) (fun q hq => ⟨?_, fun hm => ?_⟩) ?_ (fun _ _ _ _ _ h => h.elim)
      · revert q; walk_at "sub"
      · revert q; walk_at "sub"
      · rcases List.mem_cons.mp hq with rfl | hq
        · rcases List.mem_cons.mp hm with e | hm
          · exact offG (K, PySem.W.listOf #[.int a ta, .int b tb, .int c tc, .int d td] kD) (by walk_at "sub1") e.symm
          rcases List.mem_cons.mp hm with e | hm
          · exact offG (lf, PySem.W.listOf (errArr fs) nf) (by walk_at "sub1") e.symm
          · refine hideG fun G0 k0 => ?_; obtain ⟨r, hr', e⟩ := List.mem_map.mp hm; refine k0 ?_; clear k0 G0
            exact offG r (by walk_at "sub1") e
        · rcases List.mem_cons.mp hm with e | hm
          · exact w4 q hq e
          rcases List.mem_cons.mp hm with e | hm
          · exact w2 q hq e
          · refine hideG fun G0 k0 => ?_; obtain ⟨r, hr', e⟩ := List.mem_map.mp hm; refine k0 ?_; clear k0 G0
            exact ane7 r hr' q hq e
      intro v led g9 h9 tk9 hP1 S9 B9 F9 N11 ap9; refine hideG fun G0 k0 => ?_; obtain ⟨Wa, oW, kvs, wl, rfl, rfl, hlo, hW⟩ := hP1; refine k0 ?_; clear k0 G0
      clear F8 N10 Xg Tg offG offG2 ane7 hx7 w1 w2 w4 f1 f2 f3
      have Xg := X.keeps B9.stays
      have Tg := T.keeps B9.stays
      k_steps
      rename_i hA FA NA
      refine here ?_
      refine Con.use (env := envOfC (Str.ofString "law") _ L f cdv) (rest := (G, lst (gp ++ [Value.ref a9])) :: nl) (one_con X T Wa oW kvs wl (tableN [a, b, c, d]) hW hlo (by rfl) 1 _ (Or.inl rfl) hP.r1) B9 FA NA rfl rfl (dp_le (a := 15) hdp (by decide)) (un_le (a := 1403) hun (by decide))
        (fun q hq => List.mem_append_left _ hq) (fun q hq => ⟨List.mem_append_right _ hq, fun hm => ?_⟩) ?_ (fun _ _ _ _ _ h => h.elim)
      · refine hideG fun G0 k0 => ?_; obtain ⟨r, hr', e⟩ := List.mem_map.mp hm; refine k0 ?_; clear k0 G0
        exact ap9 r hr' q hq e
      intro v1 led g10 h10 tk10 hP1 S10 B10 F10 N12 ap10; refine hideG fun G0 k0 => ?_; obtain ⟨l1, rfl, hA1⟩ := hP1; refine k0 ?_; clear k0 G0
      clear FA NA Xg Tg ap9
      have Xg := X.keeps B10.stays
      have Tg := T.keeps B10.stays
      have mG : ∀ q ∈ (G, lst (gp ++ [Value.ref a9])) :: nl, q ∈ (Wa, oW) :: wl ++ l1 ++ (G, lst (gp ++ [Value.ref a9])) :: nl := fun q hq => List.mem_append_right _ hq
      k_steps
      refine sub_int N12 (mG _ (.head _)) (by decide) (by decide) hg0 ?_ (by with_unfolding_all rfl)
      k_steps
      refine here ?_
      refine Con.use (env := envOfC (Str.ofString "law") _ L f cdv) (rest := (Wa, oW) :: wl ++ l1) (by_con X T G a0 (gp ++ [Value.ref a9]) us0 _ ku0 nl good (good.headD []) hgood hl4 hi0 (hl4 _ (head_mem hne)) hm0 hl24) B10 F10 N12 rfl rfl (dp_le (a := 2) hdp (by decide)) (un_le (a := 103) hun (by decide))
        (fun q hq => List.mem_append_right _ hq) (fun q hq => ⟨List.mem_append_left _ hq, fun hm => ?_⟩) ?_ (fun _ _ _ _ _ h => h.elim)
      · refine hideG fun G0 k0 => ?_; obtain ⟨r, hr', e⟩ := List.mem_map.mp hm; refine k0 ?_; clear k0 G0
        exact ap10 q hq r hr' e.symm
      intro v2 led g11 h11 tk11 hP1 S11 B11 F11 N13 ap11; refine hideG fun G0 k0 => ?_; obtain ⟨l2, rfl, hA2⟩ := hP1; refine k0 ?_; clear k0 G0
      clear F10 N12 Xg Tg ap10 mG
      have Xg := X.keeps B11.stays
      have Tg := T.keeps B11.stays
      k_steps
      refine here ?_
      have hq1 := hP.q1
      rw [hq1] at hA1
      obtain ⟨as1, hr1⟩ := reads_ans N13 (hA1.mono fun q hq => List.mem_append_right _ (List.mem_append_right _ hq))
      obtain ⟨as2, hr2⟩ := reads_ans N13 (hA2.mono fun q hq => List.mem_append_left _ (List.mem_append_right _ hq))
      refine ne_dataH hr1 hr2 (ans_shaped _ _) (ans_shaped _ _) (show un + 3 + 64 < cLine by unfold cLine; omega) ?_
      rw [eqv_ans, Bool.not_true]
      clear hr1 hr2 as1 as2 hA1 hA2 hq1
      k_steps
      refine here ?_
      refine Con.use (env := envOfC (Str.ofString "law") _ L f cdv) (rest := (G, lst (gp ++ [Value.ref a9])) :: nl) (one_con X T Wa oW kvs wl (tableN [a, b, c, d]) hW hlo (by rfl) (-1) _ (Or.inr rfl) hP.r2) B11 F11 N13 rfl rfl (dp_le (a := 15) hdp (by decide)) (un_le (a := 1403) hun (by decide))
        (fun q hq => List.mem_append_right _ (List.mem_append_left _ hq)) (fun q hq => ⟨List.mem_append_left _ (List.mem_append_left _ hq), fun hm => ?_⟩) ?_ (fun _ _ _ _ _ h => h.elim)
      · refine hideG fun G0 k0 => ?_; obtain ⟨r, hr', e⟩ := List.mem_map.mp hm; refine k0 ?_; clear k0 G0
        exact ap11 q (List.mem_append_left _ hq) r (List.mem_append_left _ hr') e.symm
      intro v1 led g12 h12 tk12 hP1 S12 B12 F12 N14 ap12; refine hideG fun G0 k0 => ?_; obtain ⟨l3, rfl, hA1⟩ := hP1; refine k0 ?_; clear k0 G0
      clear F11 N13 Xg Tg ap11
      have Xg := X.keeps B12.stays
      have Tg := T.keeps B12.stays
      k_steps
      refine item_last (p := gp) (y := .ref a9) N14 (List.mem_append_right _ (.head _)) (by have := hgood.len; rw [List.length_append, List.length_singleton] at this; omega) ?_ (by with_unfolding_all rfl)
      k_steps
      refine here ?_
      refine Con.use (env := envOfC (Str.ofString "law") _ L f cdv) (rest := (Wa, oW) :: wl ++ l3) (by_con X T G a9 (gp ++ [Value.ref a9]) us9 _ ku9 nl good (good.getLastD []) hgood hl4 hi9 (hl4 _ (last_mem hne)) hm9 hl24) B12 F12 N14 rfl rfl (dp_le (a := 2) hdp (by decide)) (un_le (a := 103) hun (by decide))
        (fun q hq => List.mem_append_right _ hq) (fun q hq => ⟨List.mem_append_left _ hq, fun hm => ?_⟩) ?_ (fun _ _ _ _ _ h => h.elim)
      · refine hideG fun G0 k0 => ?_; obtain ⟨r, hr', e⟩ := List.mem_map.mp hm; refine k0 ?_; clear k0 G0
        exact ap12 q hq r hr' e.symm
      intro v2 led g13 h13 tk13 hP1 S13 B13 F13 N15 ap13; refine hideG fun G0 k0 => ?_; obtain ⟨l4, rfl, hA2⟩ := hP1; refine k0 ?_; clear k0 G0
      clear F12 N14 Xg Tg ap12
      have Xg := X.keeps B13.stays
      have Tg := T.keeps B13.stays
      k_steps
      refine here ?_
      have hq1 := hP.q2
      rw [hq1] at hA1
      obtain ⟨as1, hr1⟩ := reads_ans N15 (hA1.mono fun q hq => List.mem_append_right _ (List.mem_append_right _ hq))
      obtain ⟨as2, hr2⟩ := reads_ans N15 (hA2.mono fun q hq => List.mem_append_left _ (List.mem_append_right _ hq))
      refine eq_dataH hr1 hr2 (ans_shaped _ _) (ans_shaped _ _) (show un + 3 + 64 < cLine by unfold cLine; omega) ?_
      rw [eqv_ans]
      clear hr1 hr2 as1 as2 hA1 hA2 hq1
      k_steps
      exact hQ _ _ _ (S1.trans (S3.trans (S5.trans (S7.trans (S8.trans (S9.trans (S10.trans (S11.trans (S12.trans S13))))))))) F13.keep
end
end Mine
end

section
open PySem PySem.Spec PySem.Calls PySem.W PyProof.Rows PyProof.Rows.LCg PySem.SeqAt
set_option maxRecDepth 100000
set_option maxHeartbeats 8000000
namespace Mine
theorem hd.tw9085318903019213062 : True := trivial
theorem hd.tw17846660462469342289 : True := trivial
theorem hd.tw14896162953220447183 : True := trivial
theorem hd.tw15371269306720811930 : True := trivial
theorem hd.tw995775220138220913 : True := trivial
theorem hd.tw13402062226832612404 : True := trivial
theorem hd.tw2125676567915665837 : True := trivial
theorem hd.tw18402139038575964673 : True := trivial
theorem hd.tw9292802415728713258 : True := trivial
theorem hd.tw4582214911144424667 : True := trivial
theorem hd.tw16829038064831673031 : True := trivial
theorem hd.tw3513179230801503054 : True := trivial
theorem hd.tw7752216883906862206 : True := trivial
theorem hd.tw3673089383077640791 : True := trivial
theorem hd.tw16740174149368742834 : True := trivial
theorem hd.tw13384067686631765065 : True := trivial
theorem hd.tw14727110085682223627 : True := trivial
theorem hd.tw4972139816212722202 : True := trivial
theorem hd.tw3039998526598829958 : True := trivial
theorem hd.tw8319748290443707457 : True := trivial
theorem hd.tw7751791981175770698 : True := trivial
theorem hd.tw14471328449074432660 : True := trivial
theorem hd.tw6041868581591045557 : True := trivial
theorem hd.tw13783031573616600631 : True := trivial
theorem hd.tw2708950531961675432 : True := trivial
theorem hd.tw5190246844813560578 : True := trivial
theorem hd.tw8638756108113873008 : True := trivial
theorem hd.tw1409312971732116557 : True := trivial
theorem hd.tw8934143017859847078 : True := trivial
theorem hd.tw212345690472687942 : True := trivial
theorem hd.tw17986969038992634876 : True := trivial
theorem hd.tw11151547217846952531 : True := trivial
theorem hd.tw11660266114150955751 : True := trivial
theorem hd.tw15643275761693703936 : True := trivial
theorem hd.tw15083628210047938546 : True := trivial
theorem hd.tw3789350110615891812 : True := trivial
theorem hd.tw4377701919642642989 : True := trivial
theorem hd.tw6982297934935202809 : True := trivial
theorem hd.tw18166333605607142505 : True := trivial
theorem hd.tw395138700845864316 : True := trivial
theorem hd.tw2603259988358896889 : True := trivial
theorem hd.tw16904818350239718627 : True := trivial
theorem hd.tw13321331477185743149 : True := trivial
theorem hd.tw8117029840178788049 : True := trivial
theorem hd.tw11117797201346649052 : True := trivial
theorem hd.tw3309697970292668127 : True := trivial
theorem hd.tw6060742912462422084 : True := trivial
theorem hd.tw15411387601460861337 : True := trivial
theorem hd.tw8458067239894703972 : True := trivial
theorem hd.tw3442329435671937591 : True := trivial
theorem hd.tw16432713993328977331 : True := trivial
theorem hd.tw2274498078352570744 : True := trivial
theorem hd.tw16064382804478563927 : True := trivial
theorem hd.tw10170382586518783626 : True := trivial
theorem hd.tw10111801491309104144 : True := trivial
theorem hd.tw6184460063843016694 : True := trivial
theorem hd.tw5416991563250132298 : True := trivial
theorem hd.tw7610815399733428385 : True := trivial
theorem hd.tw18343703819029505601 : True := trivial
theorem hd.tw8356816923877370021 : True := trivial
theorem hd.tw14553816603554493358 : True := trivial
theorem hd.tw16640546478005224243 : True := trivial
theorem hd.tw6276725880618359904 : True := trivial
theorem hd.tw3429492842335990350 : True := trivial
theorem hd.tw16259696140248634718 : True := trivial
theorem hd.tw18300207936620678264 : True := trivial
theorem hd.tw11032806212648032379 : True := trivial
theorem hd.tw13855881374063213867 : True := trivial
theorem hd.tw11917015161858427179 : True := trivial
theorem hd.tw17447410573909459338 : True := trivial
theorem hd.tw18322514126500204803 : True := trivial
theorem hd.tw14168552714766633299 : True := trivial
theorem hd.tw4478166936697009375 : True := trivial
theorem hd.tw17420951861521290806 : True := trivial
theorem hd.tw18103474030473559431 : True := trivial
theorem hd.tw3109861748172591687 : True := trivial
theorem hd.tw9641152695372364146 : True := trivial
theorem hd.tw1222794163293265305 : True := trivial
theorem hd.tw16037735763661986305 : True := trivial
theorem hd.tw1882180444382439491 : True := trivial
theorem hd.tw11754176132448286083 : True := trivial
set_option Elab.async true
theorem hd.te10024716035694756283 : True := trivial
theorem hd.te10216474801634566288 : True := trivial
theorem hd.te10246146449241189800 : True := trivial
theorem hd.te10424393626065333798 : True := trivial
theorem hd.te10458740792067480800 : True := trivial
theorem hd.te10525666975642140466 : True := trivial
theorem hd.te10614716105012338702 : True := trivial
theorem hd.te10879034167726328663 : True := trivial
theorem hd.te11128854368766332075 : True := trivial
theorem hd.te11162318198679636149 : True := trivial
theorem hd.te11213053971927718326 : True := trivial
theorem hd.te11251137523995926341 : True := trivial
theorem hd.te1129884963351977449 : True := trivial
theorem hd.te11319097763535126812 : True := trivial
theorem hd.te11319892378374348655 : True := trivial
theorem hd.te11402939732021071671 : True := trivial
theorem hd.te11465210709893060100 : True := trivial
theorem hd.te11513968764499736323 : True := trivial
theorem hd.te11893437276241958245 : True := trivial
theorem hd.te12023040214023829324 : True := trivial
theorem hd.te12050417470231563642 : True := trivial
theorem hd.te12070051907170230399 : True := trivial
theorem hd.te12113243949977362033 : True := trivial
theorem hd.te1241404454085649124 : True := trivial
theorem hd.te12487502673411948298 : True := trivial
theorem hd.te12588582704262371052 : True := trivial
theorem hd.te12629568148972539762 : True := trivial
theorem hd.te12631932088317031055 : True := trivial
theorem hd.te12901994302517312135 : True := trivial
theorem hd.te12936449754285732098 : True := trivial
theorem hd.te13225837485096350037 : True := trivial
theorem hd.te13267510147771200024 : True := trivial
theorem hd.te13330244855972007585 : True := trivial
theorem hd.te13368278939475635651 : True := trivial
theorem hd.te13372043803930879067 : True := trivial
theorem hd.te13518370688599389936 : True := trivial
theorem hd.te13609717118414637909 : True := trivial
theorem hd.te13770079208771991547 : True := trivial
theorem hd.te13790719812936386609 : True := trivial
theorem hd.te13828106393651249627 : True := trivial
theorem hd.te13919464512627920130 : True := trivial
theorem hd.te14103535550066685397 : True := trivial
theorem hd.te14176624398918483544 : True := trivial
theorem hd.te14400467628812073631 : True := trivial
theorem hd.te1452849714261714991 : True := trivial
theorem hd.te14892549342360969540 : True := trivial
theorem hd.te14955159897011116063 : True := trivial
theorem hd.te14960593345356199642 : True := trivial
theorem hd.te15042006015671813226 : True := trivial
theorem hd.te15103106377680225435 : True := trivial
theorem hd.te15166520500009309586 : True := trivial
theorem hd.te15368132723985388332 : True := trivial
theorem hd.te15422856539912107476 : True := trivial
theorem hd.te15527848837575444561 : True := trivial
theorem hd.te15615420239508185596 : True := trivial
theorem hd.te15642763164714097627 : True := trivial
theorem hd.te15673258824015622330 : True := trivial
theorem hd.te15683763237869141255 : True := trivial
theorem hd.te15759970867653108152 : True := trivial
theorem hd.te1580110805410547442 : True := trivial
theorem hd.te1600037746751723098 : True := trivial
theorem hd.te16007149819294483003 : True := trivial
theorem hd.te16091413853298234908 : True := trivial
theorem hd.te16194383521188589630 : True := trivial
theorem hd.te16477043939570097188 : True := trivial
theorem hd.te16722109127936396110 : True := trivial
theorem hd.te16772102934027710169 : True := trivial
theorem hd.te16794629799341752650 : True := trivial
theorem hd.te16853341256802265648 : True := trivial
theorem hd.te16920754564084929960 : True := trivial
theorem hd.te16945582573551092051 : True := trivial
theorem hd.te17054507655720011243 : True := trivial
theorem hd.te17062030032774818151 : True := trivial
theorem hd.te17087091549796120035 : True := trivial
theorem hd.te17258206423299326598 : True := trivial
theorem hd.te17330945745186091897 : True := trivial
theorem hd.te17542962492245011380 : True := trivial
theorem hd.te17650839729002327288 : True := trivial
theorem hd.te17672654358674132775 : True := trivial
theorem hd.te17711083657039698284 : True := trivial
theorem hd.te17739348878880393726 : True := trivial
theorem hd.te17893044597097874663 : True := trivial
theorem hd.te17901334829092211166 : True := trivial
theorem hd.te17950676927832955104 : True := trivial
theorem hd.te17975533764899295144 : True := trivial
theorem hd.te18219297243305740317 : True := trivial
theorem hd.te18291419657060728153 : True := trivial
theorem hd.te18293732401869909652 : True := trivial
theorem hd.te1836080755315867724 : True := trivial
theorem hd.te1847840615245081061 : True := trivial
theorem hd.te1865391376527767206 : True := trivial
theorem hd.te2068664650715991707 : True := trivial
theorem hd.te2101469004524951375 : True := trivial
theorem hd.te2114630138375439770 : True := trivial
theorem hd.te2329189449893159454 : True := trivial
theorem hd.te2386827423013361158 : True := trivial
theorem hd.te2608437505485318709 : True := trivial
theorem hd.te2887051446865420828 : True := trivial
theorem hd.te3008623586974134963 : True := trivial
theorem hd.te3381375190539634487 : True := trivial
theorem hd.te3451239065008710300 : True := trivial
theorem hd.te3480954088277226078 : True := trivial
theorem hd.te3646829019195819677 : True := trivial
theorem hd.te3795277891434052102 : True := trivial
theorem hd.te3915529967508079626 : True := trivial
theorem hd.te3919010098100093602 : True := trivial
theorem hd.te4014540891139286612 : True := trivial
theorem hd.te4115565904173853331 : True := trivial
theorem hd.te4172343393113369950 : True := trivial
theorem hd.te4225703048834024713 : True := trivial
theorem hd.te4272726840584523970 : True := trivial
theorem hd.te432457690288141553 : True := trivial
theorem hd.te4478964076566166474 : True := trivial
theorem hd.te461538923250603899 : True := trivial
theorem hd.te4706079058837389440 : True := trivial
theorem hd.te4851647983119433812 : True := trivial
theorem hd.te4870687313549177768 : True := trivial
theorem hd.te5054737718236178183 : True := trivial
theorem hd.te5130813555471234732 : True := trivial
theorem hd.te5148922909946612681 : True := trivial
theorem hd.te5174551420813472067 : True := trivial
theorem hd.te5278057926702712004 : True := trivial
theorem hd.te5282504435634884242 : True := trivial
theorem hd.te5366084841770067474 : True := trivial
theorem hd.te5562173858411828344 : True := trivial
theorem hd.te5567388512258382067 : True := trivial
theorem hd.te5608270528595127837 : True := trivial
theorem hd.te5657824000916062451 : True := trivial
theorem hd.te5781342201191254626 : True := trivial
theorem hd.te5902613922787404954 : True := trivial
theorem hd.te5961118342813265553 : True := trivial
theorem hd.te5987830557187376847 : True := trivial
theorem hd.te6038821095411175016 : True := trivial
theorem hd.te6196171512934965099 : True := trivial
theorem hd.te6293948785866598258 : True := trivial
theorem hd.te6305734824756694309 : True := trivial
theorem hd.te6528754448969337418 : True := trivial
theorem hd.te6555240042291301478 : True := trivial
theorem hd.te6767318904944593275 : True := trivial
theorem hd.te6819123309680001836 : True := trivial
theorem hd.te6830512106363814048 : True := trivial
theorem hd.te6868836192036940282 : True := trivial
theorem hd.te6924109203229866365 : True := trivial
theorem hd.te6998783941825042932 : True := trivial
theorem hd.te701787995468756871 : True := trivial
theorem hd.te7023726343779634624 : True := trivial
theorem hd.te7028611270464810887 : True := trivial
theorem hd.te7068711184596962023 : True := trivial
theorem hd.te7289634563603522867 : True := trivial
theorem hd.te7355570028127101125 : True := trivial
theorem hd.te7519716089354478335 : True := trivial
theorem hd.te7540655947842036084 : True := trivial
theorem hd.te7763873220885509757 : True := trivial
theorem hd.te7914949630228597729 : True := trivial
theorem hd.te8047900516022102942 : True := trivial
theorem hd.te8134915037123179040 : True := trivial
theorem hd.te8226494294326810461 : True := trivial
theorem hd.te8228950375871286339 : True := trivial
theorem hd.te8268277133935991078 : True := trivial
theorem hd.te8343274005884668182 : True := trivial
theorem hd.te8457440626546761165 : True := trivial
theorem hd.te8671608845466749128 : True := trivial
theorem hd.te8959176491354863721 : True := trivial
theorem hd.te8977307856219701671 : True := trivial
theorem hd.te8990313861142287110 : True := trivial
theorem hd.te9277588360372424766 : True := trivial
theorem hd.te9421340871869096474 : True := trivial
theorem hd.te9427301549700849589 : True := trivial
theorem hd.te9557236495431379559 : True := trivial
theorem hd.te9566141503761928105 : True := trivial
theorem hd.te9719896912496429819 : True := trivial
theorem hd.te9741134391959003819 : True := trivial
theorem hd.te9763420282994701918 : True := trivial
theorem hd.te9783614193127449063 : True := trivial
theorem hd.te991583007596301734 : True := trivial
theorem hd.te9960721518486171458 : True := trivial
theorem hd : PySem.Challenge.rw_ny0334_01.Holds := by
  w_on; o_law
  o_head (kHook Mine.k0.heap_1 [2, 3, 15, 17, 18, 20, 21, 29, 30, 32, 33, 35, 36, 37, 39, 40, 41, 42, 43, 46, 53, 54, 55, 56, 66, 67, 69, 70, 72, 73, 74, 76, 77, 79, 80, 81, 83, 84, 86, 87, 88, 91, 92, 93, 95, 96, 98, 99, 100, 102, 103, 105, 106, 107, 109, 110, 112, 113, 114, 116, 117, 119, 120, 121, 123, 124, 126, 127, 128, 130, 131, 133, 134, 135, 136, 137, 138, 139, 142, 144, 145, 147, 148, 149, 151, 152, 154, 155, 156, 158, 159, 161, 162, 163, 165, 166, 168, 169, 170, 177, 178, 179, 180, 183, 190, 191, 192, 195, 202, 203, 204, 207, 214, 216, 217, 219, 220, 221, 222, 223, 226, 233, 235, 236, 238, 239, 240, 241, 242, 245, 252, 254, 255, 257, 258, 259, 260, 261, 264, 271, 272, 273, 276, 283, 284, 285, 288, 295, 296, 297, 300, 307, 308, 309, 312, 314, 315, 317, 318, 319, 321, 322, 324, 325, 326, 329, 330, 331, 334, 335, 336, 338, 339, 341, 342, 343, 346, 347, 348, 351, 352, 353, 355, 356, 358, 359, 360, 363, 364, 365, 368, 369, 370, 373, 374] (fun _ => by kernel_rfl))
  case hw => w_witness2
  k_go0
  (all_goals try k_fold)
  rename CellsAre _ _ _ => X0
  obtain ⟨c1, c2, ec, d1, d2⟩ := X0.two
  cases ec
  refine' (law_body (by assumption) ?lwA : LawP _ _ _ _ _ _ _ _ _ _) (1 + claimMargin) 4 [] (some []) _ _ _ _ _ _ _ _ _ _ _ _ _ _ _ _ _ (by decide) (by decide) (by assumption) (by assumption) (by assumption) (by assumption) ?lwB (by assumption) (by assumption) (by assumption) (by assumption) ?lwC
  case lwA => k_is
  case lwB => omega
  case lwC =>
    intro g' h' tk' hS hK
    k_steps
    refine ⟨.inl ⟨_, .bool true, [], rfl, raisesW_false ?lwD, .bool _, ?lwE, unshared_nil⟩, fun b o e => hK b o (hS.same b o e (fun hm => nomatch hm)), rfl, by assumption⟩
    case lwD => wrow_none_raised
    case lwE => first | (wrow_post; done) | rfl | decide +kernel
end Mine
end

theorem PySem.Challenge.cw_ny0334_01_holds : PySem.Challenge.rw_ny0334_01.Holds := by
  exact Mine.hd
