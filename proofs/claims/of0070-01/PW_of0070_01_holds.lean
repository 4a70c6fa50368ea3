import PyProof.Rows.All
import Wide.All
import OpenK.AllK
import Wide.FinOn
import PySem.Challenge.RW_of0070_01
set_option Elab.async false
set_option genSizeOf false
-- Top1
section
open PySem PySem.W PyProof.Rows
set_option Elab.async false
namespace Mine
set_option maxRecDepth 100000 in
set_option maxHeartbeats 8000000 in
open_top hd for PySem.Challenge.rw_of0070_01
end Mine
end

-- B1
section
open PySem PySem.W PyProof.Rows PySem.Calls
set_option Elab.async false
set_option linter.unusedVariables false
namespace Mine

structure Bs (w : World) (g : Heap) : Prop where
  X : (Mine.hd.heap_39 w.params).In g
  gl : ∃ mg, g.Ns mainGlobals mg
  bu : ∃ mb, g.Ns builtinsNs mb ∧ ∀ x : Str, x ≠ "__name__" → mb x = bootBuiltins x
  lim : g.NoLimit
theorem Bs.keeps {w : World} {g g' : Heap} (B : Bs w g) (k : ∀ b o, g.get? b = some o → g'.get? b = some o) : Bs w g' :=
  ⟨fun a o e => k _ _ (B.X a o e), let ⟨mg, h⟩ := B.gl; ⟨mg, h.keeps k⟩, let ⟨mb, h, e⟩ := B.bu; ⟨mb, h.keeps k, e⟩, B.lim.keeps k⟩

structure Kp (s s' : Shared) : Prop where
  near : ∃ h tk, s' = { s with heap := h, toks := tk }
  get : ∀ b o, s.heap.get? b = some o → s'.heap.get? b = some o
theorem Kp.same (s : Shared) : Kp s s := ⟨⟨s.heap, s.toks, rfl⟩, fun _ _ e => e⟩
theorem Kp.trans {a b c : Shared} (h : Kp a b) (k : Kp b c) : Kp a c := by
  refine ⟨?_, fun b o e => k.get b o (h.get b o e)⟩
  obtain ⟨h1, t1, rfl⟩ := h.near
  obtain ⟨h2, t2, rfl⟩ := k.near
  exact ⟨h2, t2, rfl⟩
theorem Kp.tok (s : Shared) (t : Nat) : Kp s { s with toks := t } := ⟨⟨s.heap, t, rfl⟩, fun _ _ e => e⟩
theorem Kp.push (s : Shared) (o : Obj) (t : Nat) : Kp s { s with heap := s.heap.push o, toks := t } := ⟨⟨_, t, rfl⟩, fun _ _ e => Heap.get?_push_of_some _ e⟩

structure St (g : Heap) (L : Addr) (m : List (Str × Value)) (own : List (Addr × (Obj → Prop))) (s₀ s : Shared) : Prop where
  near : ∃ h tk, s = { s₀ with heap := h, toks := tk }
  ns : s.heap.Ns L (fun x => m.lookup x)
  keep : ∀ b o, g.get? b = some o → s.heap.get? b = some o
  above : g.get? L = none
  owns : ∀ p ∈ own, (∃ o, s.heap.get? p.1 = some o ∧ p.2 o) ∧ p.1 ≠ L ∧ g.get? p.1 = none
  apart : own.Pairwise fun p q => p.1 ≠ q.1

noncomputable def isL (vs : List Value) : Obj → Prop := fun o => ∃ n, o = { cls := .type "list", data := .seq vs.toArray n }
noncomputable def isC (v : Option Value) : Obj → Prop := fun o => o.data = .cell v

structure Room (A : Around) (d u : Nat) : Prop where
  hh : A.handled = none
  hd : A.depth + d < recursionLimit
  hu : A.units + u < cLine
theorem Room.le {A : Around} {d u d' u' : Nat} (R : Room A d u) (h1 : d' ≤ d) (h2 : u' ≤ u) : Room A d' u' :=
  ⟨R.hh, by have := R.hd; omega, by have := R.hu; omega⟩
theorem Room.in1 {A : Around} {d u u' : Nat} (R : Room A d u) (h2 : u' + 1 ≤ u) : Room A.in1 d u' :=
  ⟨R.hh, R.hd, by have := R.hu; show A.units + 1 + u' < _; omega⟩

section
variable {g : Heap} {L : Addr} {m : List (Str × Value)} {own : List (Addr × (Obj → Prop))} {s₀ s s' : Shared}
theorem St.keeps (H : St g L m own s₀ s) (k : Kp s s') : St g L m own s₀ s' := by
  refine ⟨?_, H.ns.keeps k.get, fun b o e => k.get b o (H.keep b o e), H.above, fun p hp => ?_, H.apart⟩
  · obtain ⟨h, tk, rfl⟩ := H.near
    obtain ⟨h', tk', rfl⟩ := k.near
    exact ⟨h', tk', rfl⟩
  · obtain ⟨⟨o, ho, hp'⟩, r⟩ := H.owns p hp
    exact ⟨⟨o, k.get _ _ ho, hp'⟩, r⟩
theorem St.put (H : St g L m own s₀ s) {x : Str} {v : Value} {h' : Heap} {tk : Nat} (hn : h'.Ns L (fun y => if y = x then some v else m.lookup y)) (hs : Heap.SameBut L s.heap h') :
    St g L ((x, v) :: m) own s₀ { s with heap := h', toks := tk } := by
  refine ⟨?_, ?_, fun b o e => ?_, H.above, fun p hp => ?_, H.apart⟩
  · obtain ⟨h, tk, rfl⟩ := H.near
    exact ⟨h', _, rfl⟩
  · have e : (fun y => if y = x then some v else m.lookup y) = fun y => List.lookup y ((x, v) :: m) := by
      funext y
      rw [List.lookup_cons]
      by_cases hy : y = x
      · subst hy; simp
      · have : (y == x) = false := by simpa using hy
        simp [hy, this]
    exact e ▸ hn
  · exact (hs.2 b (fun q => by rw [q, H.above] at e; cases e)).trans (H.keep b o e)
  · obtain ⟨⟨o, ho, hp'⟩, r1, r2⟩ := H.owns p hp
    exact ⟨⟨o, (hs.2 _ r1).trans ho, hp'⟩, r1, r2⟩
theorem St.set (H : St g L m own s₀ s) {i : Nat} {a : Addr} {P P' : Obj → Prop} {h' : Heap} {tk : Nat} (hi : own[i]? = some (a, P)) (hs : Heap.SameBut a s.heap h') (ho : ∃ o, h'.get? a = some o ∧ P' o) :
    St g L m (own.set i (a, P')) s₀ { s with heap := h', toks := tk } := by
  have ha := H.owns _ (List.mem_of_getElem? hi)
  refine ⟨?_, H.ns.sameBut hs (Ne.symm ha.2.1), fun b o e => ?_, H.above, fun p hp => ?_, ?_⟩
  · obtain ⟨h, tk, rfl⟩ := H.near
    exact ⟨h', _, rfl⟩
  · exact (hs.2 b (fun q => by have := ha.2.2; rw [q] at e; rw [this] at e; cases e)).trans (H.keep b o e)
  · obtain ⟨j, hj⟩ := List.getElem?_of_mem hp
    rw [List.getElem?_set] at hj
    have hlt : i < own.length := by
      rcases Nat.lt_or_ge i own.length with h | h
      · exact h
      · rw [List.getElem?_eq_none h] at hi; cases hi
    by_cases hij : i = j
    · subst hij
      simp only [if_true, hlt] at hj
      cases hj
      exact ⟨ho, ha.2⟩
    · simp only [hij, if_false] at hj
      obtain ⟨⟨o, hg, hp'⟩, r1, r2⟩ := H.owns p (List.mem_of_getElem? hj)
      refine ⟨⟨o, (hs.2 _ ?_).trans hg, hp'⟩, r1, r2⟩
      intro q
      rcases Nat.lt_or_gt_of_ne hij with h | h
      · obtain ⟨hj1, hj2⟩ := List.getElem?_eq_some_iff.mp hj
        obtain ⟨hi1, hi2⟩ := List.getElem?_eq_some_iff.mp hi
        have := (List.pairwise_iff_getElem.mp H.apart) i j hi1 hj1 h
        rw [hi2, hj2] at this
        exact this q.symm
      · obtain ⟨hj1, hj2⟩ := List.getElem?_eq_some_iff.mp hj
        obtain ⟨hi1, hi2⟩ := List.getElem?_eq_some_iff.mp hi
        have := (List.pairwise_iff_getElem.mp H.apart) j i hj1 hi1 h
        rw [hi2, hj2] at this
        exact this q
  · have e : ((own.set i (a, P')).map (·.1)) = own.map (·.1) := by
      apply List.ext_getElem?
      intro j
      rw [List.getElem?_map, List.getElem?_map, List.getElem?_set]
      by_cases hij : i = j
      · subst hij
        rw [hi]
        have hlt : i < own.length := by
          rcases Nat.lt_or_ge i own.length with h | h
          · exact h
          · rw [List.getElem?_eq_none h] at hi; cases hi
        simp [hlt]
      · simp [hij]
    have q : (own.map (·.1)).Pairwise (· ≠ ·) := List.pairwise_map.mpr H.apart
    rw [← e] at q
    exact List.pairwise_map.mp q
theorem St.more (H : St g L m own s₀ s) (k : Kp s s') {a : Addr} {P : Obj → Prop} (hn : s.heap.get? a = none) (ho : ∃ o, s'.heap.get? a = some o ∧ P o) : St g L m ((a, P) :: own) s₀ s' := by
  have H' := H.keeps k
  refine ⟨H'.near, H'.ns, H'.keep, H'.above, fun p hp => ?_, List.pairwise_cons.mpr ⟨fun p hp q => ?_, H'.apart⟩⟩
  · rcases List.mem_cons.mp hp with rfl | hp
    · refine ⟨ho, fun q => ?_, ?_⟩
      · obtain ⟨o, _, _, e, _⟩ := H.ns
        have q' : a = L := q
        rw [← q', hn] at e; cases e
      · cases q : g.get? a with
        | none => rfl
        | some o => have := H.keep _ _ q; rw [hn] at this; cases this
    · exact H'.owns p hp
  · obtain ⟨⟨o, e, _⟩, _⟩ := H.owns p hp
    have q' : a = p.1 := q
    rw [← q', hn] at e; cases e
theorem St.at (H : St g L m own s₀ s) {i : Nat} {a : Addr} {P : Obj → Prop} (hi : own[i]? = some (a, P)) : ∃ o, s.heap.get? a = some o ∧ P o := (H.owns _ (List.mem_of_getElem? hi)).1
theorem St.lst (H : St g L m own s₀ s) {i : Nat} {a : Addr} {vs : List Value} (hi : own[i]? = some (a, isL vs)) : s.heap.PlainList a vs.toArray := let ⟨_, ho, n, e⟩ := H.at hi; ⟨n, e ▸ ho⟩
theorem St.cell (H : St g L m own s₀ s) {i : Nat} {a : Addr} {v : Option Value} (hi : own[i]? = some (a, isC v)) : s.heap.IsCell a v := let ⟨o, ho, e⟩ := H.at hi; ⟨o, ho, e⟩
theorem St.bs {w : World} (H : St g L m own s₀ s) (B : Bs w g) : Bs w s.heap := B.keeps H.keep
theorem St.done (H : St s₀.heap L m own s₀ s) : Kp s₀ s := ⟨H.near, H.keep⟩
end

section
variable {M : Model} {A : Around} {E : Value → Shared → Prop} {s : Shared} {env : Env}
theorem k_int {i : Int} {k : Nat} {pos : Pos} {Q : Value → Shared → Prop} (h : ∀ t s', Kp s s' → Q (.int i t) s') : wpAny M A (eval (.Constant (.int i) k pos) env) Q E s := wpAny_Constant_int (h _ _ (Kp.tok _ _))
theorem k_str {x : Str} {k : Nat} {pos : Pos} {Q : Value → Shared → Prop} (h : ∀ t s', Kp s s' → Q (.str x t) s') : wpAny M A (eval (.Constant (.str x) k pos) env) Q E s := wpAny_Constant_str (h _ _ (Kp.tok _ _))
theorem n_loc {x : Str} {pos : Pos} {m : Str → Option Value} {v : Value} {Q : Value → Shared → Prop} (hn : s.heap.Ns env.locals m) (hv : m x = some v) (h : Q v s)
    (hk : env.scope.kind = .function := by kernel_rfl) (hl : env.kindOf x = some .local := by kernel_rfl) (hd : (x == ("__debug__" : Str)) = false := by kernel_rfl) : wpAny M A (eval (.Name x pos) env) Q E s :=
  wpAny_Name (wpAny_loadName_local hk hl hn hv h) hd
theorem n_cell {x : Str} {pos : Pos} {c : Addr} {v : Value} {Q : Value → Shared → Prop} (hc : env.cells.lookup x = some c) (hv : s.heap.IsCell c (some v)) (h : Q v s)
    (hk : env.scope.kind = .function := by kernel_rfl) (hl : env.kindOf x = some .cell := by kernel_rfl) (hd : (x == ("__debug__" : Str)) = false := by kernel_rfl) : wpAny M A (eval (.Name x pos) env) Q E s :=
  wpAny_Name (wpAny_loadName_cell hk hl hc hv h) hd
theorem n_glob {w : World} {x : Str} {pos : Pos} {v : Value} {Q : Value → Shared → Prop} (B : Bs w s.heap) (e : nsIn (Mine.hd.heap_39 w.params) mainGlobals x = some (some v)) (h : Q v s)
    (hg : env.globals = mainGlobals := by kernel_rfl) (hk : env.scope.kind = .function := by kernel_rfl) (hx : env.kindOf x = some .globalImplicit := by kernel_rfl) (hd : (x == ("__debug__" : Str)) = false := by kernel_rfl) : wpAny M A (eval (.Name x pos) env) Q E s := by
  obtain ⟨mg, G⟩ := B.gl
  exact Name_function_global hk hx (loadGlobal_global (hg ▸ G) (mg_of B.X G e) h) hd
theorem n_built {w : World} {x : Str} {pos : Pos} {v : Value} {Q : Value → Shared → Prop} (B : Bs w s.heap) (e : nsIn (Mine.hd.heap_39 w.params) mainGlobals x = some none) (hv : bootBuiltins x = some v) (h : Q v s)
    (hn : x ≠ "__name__" := by decide)
    (hg : env.globals = mainGlobals := by kernel_rfl) (hb : env.builtins = builtinsNs := by kernel_rfl) (hk : env.scope.kind = .function := by kernel_rfl) (hx : env.kindOf x = some .globalImplicit := by kernel_rfl) (hd : (x == ("__debug__" : Str)) = false := by kernel_rfl) : wpAny M A (eval (.Name x pos) env) Q E s := by
  obtain ⟨mg, G⟩ := B.gl
  obtain ⟨mb, G', hmb⟩ := B.bu
  exact Name_function_global hk hx (loadGlobal_builtin (hg ▸ G) (mg_none_of B.X G e) (hb ▸ G') ((hmb x hn).trans hv) h) hd
theorem s_loc {g : Heap} {L : Addr} {m : List (Str × Value)} {own : List (Addr × (Obj → Prop))} {s₀ : Shared} {x : Str} {v : Value} {Q : Unit → Shared → Prop} (H : St g L m own s₀ s)
    (h : ∀ s', St g L ((x, v) :: m) own s₀ s' → Q () s') (hL : env.locals = L := by kernel_rfl)
    (hk : env.scope.kind = .function := by kernel_rfl) (hl : env.kindOf x = some .local := by kernel_rfl) : wpAny M A (storeName env x v) Q E s :=
  wpAny_storeName_local hl (hL ▸ H.ns) (fun h' hn hs => h _ (H.put (hL ▸ hn) (hL ▸ hs))) (by rw [hk]; rfl)
theorem s_cell {g : Heap} {L : Addr} {m : List (Str × Value)} {own : List (Addr × (Obj → Prop))} {s₀ : Shared} {x : Str} {v : Value} {c : Addr} {v₀ : Option Value} {i : Nat} {Q : Unit → Shared → Prop} (H : St g L m own s₀ s)
    (hc : env.cells.lookup x = some c) (hi : own[i]? = some (c, isC v₀))
    (h : ∀ s', St g L m (own.set i (c, isC (some v))) s₀ s' → Q () s')
    (hk : env.scope.kind = .function := by kernel_rfl) (hl : env.kindOf x = some .cell := by kernel_rfl) : wpAny M A (storeName env x v) Q E s :=
  wpAny_storeName_cell hk hl hc (H.cell hi) (fun h' hc' hs => h _ (let ⟨o, ho, hd⟩ := hc'; H.set hi hs ⟨o, ho, hd⟩))
end
end Mine
end

-- B2
section
open PySem PySem.W PyProof.Rows PySem.Calls
set_option Elab.async false
set_option linter.unusedVariables false
namespace Mine

abbrev cTests (ifs : List Expr) (cenv : Env) : Sem Bool :=
  forIn ifs true fun c r => if r = true then do let ok ← isTrue c cenv (eval c cenv); pure (ForInStep.yield ok) else pure (ForInStep.yield r)

structure Binder (prog : Program) (w : World) (A : Around) (target : Expr) (cenv : Env) (B : Addr) (Bnd : Value → Heap → Prop) (Any : Heap → Prop) : Prop where
  keepB : ∀ v h h', Bnd v h → (∀ o, h.get? B = some o → h'.get? B = some o) → Bnd v h'
  keepA : ∀ h h', Any h → (∀ o, h.get? B = some o → h'.get? B = some o) → Any h'
  any : ∀ v h, Bnd v h → Any h
  bind : ∀ v (s : Shared) (Q : Unit → Shared → Prop) (E : Value → Shared → Prop), Any s.heap →
    (∀ h' tk, Bnd v h' → Heap.SameBut B s.heap h' → Q () { s with heap := h', toks := tk }) → wpAny (model prog w) A (assign target cenv v) Q E s

theorem binder_loc {prog : Program} {w : World} {A : Around} {x : Str} {px : Pos} {cenv : Env} (hx : cenv.kindOf x = some .local) (hk : cenv.scope.kind = .function) :
    Binder prog w A (.Name x px) cenv cenv.locals (fun v h => ∃ m, h.Ns cenv.locals m ∧ m x = some v) (fun h => ∃ m, h.Ns cenv.locals m) where
  keepB := fun v h h' ⟨m, hn, hm⟩ k => ⟨m, hn.at' k, hm⟩
  keepA := fun h h' ⟨m, hn⟩ k => ⟨m, hn.at' k⟩
  any := fun v h ⟨m, hn, _⟩ => ⟨m, hn⟩
  bind := fun v s Q E ⟨m, hn⟩ h => wpAny_assign_Name (wpAny_storeName_local hx hn (fun h' hn' hs => h h' _ ⟨_, hn', by simp⟩ hs) (by rw [hk]; rfl))
theorem binder_cell {prog : Program} {w : World} {A : Around} {x : Str} {px : Pos} {cenv : Env} {c : Addr} (hx : cenv.kindOf x = some .cell) (hk : cenv.scope.kind = .function) (hc : cenv.cells.lookup x = some c) :
    Binder prog w A (.Name x px) cenv c (fun v h => h.IsCell c (some v)) (fun h => ∃ u, h.IsCell c u) where
  keepB := fun v h h' hc k => let ⟨o, ho, hd⟩ := hc; ⟨o, k o ho, hd⟩
  keepA := fun h h' ⟨u, o, ho, hd⟩ k => ⟨u, o, k o ho, hd⟩
  any := fun v h hc => ⟨_, hc⟩
  bind := fun v s Q E ⟨u, hu⟩ h => wpAny_assign_Name (wpAny_storeName_cell hk hx hc hu fun h' hc' hs => h h' s.toks hc' hs)

section
variable {prog : Program} {w : World} {A : Around} {E : Value → Shared → Prop} {env : Env} {R : Result → Shared → Prop} {s : Shared}

theorem cloop {elt iter target : Expr} {ifs : List Expr} {scope : Scope} {pos : Pos} {I D B : Addr} {fp wr : List Addr} {n : Nat} {P : Nat → Value → Prop} {S : Nat → Heap → Prop} {cenv : Env} {Bnd : Value → Heap → Prop} {Any : Heap → Prop}
    (W : Walks prog w A I fp wr n P S) (J : Nat → List Value → Prop) (K : Binder prog w A target cenv B Bnd Any)
    (hDB : D ≠ B) (hDf : D ∉ fp) (hBf : B ∉ fp) (hst : S 0 s.heap) (hacc : s.heap.PlainList D #[]) (hany : Any s.heap) (hJ : J 0 [])
    (turn : ∀ i v acc s₃ E', i < n → P i v → J i acc → Bnd v s₃.heap → (∀ b o, b ≠ B → b ∉ wr → b ≠ D → s.heap.get? b = some o → s₃.heap.get? b = some o) →
      wpAny (model prog w) A (cTests ifs cenv) (fun ok s₄ => Kp s₃ s₄ ∧ (if ok = true then wpAny (model prog w) A (eval elt cenv) (fun y s₅ => Kp s₄ s₅ ∧ J (i + 1) (acc ++ [y])) E' s₄ else J (i + 1) acc)) E' s₃)
    (fin : ∀ h' tk ys, J n ys → Any h' → h'.PlainList D ys.toArray → (∀ b o, b ≠ B → b ∉ wr → b ≠ D → s.heap.get? b = some o → h'.get? b = some o) → R (.ok .next) { s with heap := h', toks := tk })
    (hsz : n ≤ sizeLine) (ht : ∀ v, letOwnedTupleGo target (.ref I) v = pure () := by intro _; rfl) :
    codeAny (model prog w) A (.compLoop (.ListComp elt [⟨target, iter, ifs, 0⟩] scope pos) 0 (.ref I) (.ref D) cenv) R s := by
  refine codeAny_compLoop_tests
    (fun k s' => ∃ h' tk i ys, s' = { s with heap := h', toks := tk } ∧ S i h' ∧ h'.PlainList D ys.toArray ∧ ys.length ≤ i ∧ Any h' ∧ J i ys ∧ i ≤ n ∧ k = n + 1 - i ∧
      (∀ b o, b ≠ B → b ∉ wr → b ≠ D → s.heap.get? b = some o → h'.get? b = some o)) ?_ (n + 1)
    ⟨s.heap, s.toks, 0, [], rfl, hst, hacc, Nat.le_refl _, hany, hJ, Nat.zero_le _, rfl, fun _ _ _ _ _ e => e⟩ ht
  rintro k s' ⟨H, tk, i, ys, rfl, hst', hacc', hlen, hany', hJ', hi, rfl, hk⟩
  have hBw : B ∉ wr := fun h => hBf (W.sub _ h)
  have hDw : D ∉ wr := fun h => hDf (W.sub _ h)
  by_cases hlt : i < n
  · refine W.item i _ _ _ hlt hst' fun v h₁ tk₁ hPv hst₁ hk₁ => ?_
    refine K.bind v _ _ _ (K.keepA _ _ hany' fun o e => hk₁ _ o hBw e) fun h₂ tk₂ hb₂ hs₂ => ?_
    have up₂ : ∀ b o, b ≠ B → b ∉ wr → H.get? b = some o → h₂.get? b = some o := fun b o hbB hbf e => hs₂.extBut b o hbB (hk₁ b o hbf e)
    have hst₂ : S (i + 1) h₂ := W.frame _ _ _ hst₁ fun b hb o e => hs₂.extBut b o (fun h => hBf (h ▸ hb)) e
    refine wpAny_mono (turn i v ys { s with heap := h₂, toks := tk₂ } _ hlt hPv hJ' hb₂ fun b o hbB hbf hbD e => up₂ b o hbB hbf (hk b o hbB hbf hbD e)) (fun ok s₄ h₄ => ?_) fun _ _ e => e
    obtain ⟨kp₄, h₄⟩ := h₄
    obtain ⟨h₃, tk₃, rfl⟩ := kp₄.near
    have g₃ : ∀ b o, h₂.get? b = some o → h₃.get? b = some o := kp₄.get
    have hst₃ : S (i + 1) h₃ := W.frame _ _ _ hst₂ fun b _ o e => g₃ b o e
    have hacc₃ : h₃.PlainList D ys.toArray := hacc'.at fun o e => g₃ _ o (up₂ D o hDB hDw e)
    have any₃ : Any h₃ := K.keepA _ _ (K.any _ _ hb₂) fun o e => g₃ _ o e
    cases ok with
    | false =>
      simp only [Bool.false_eq_true, if_false] at h₄ ⊢
      exact ⟨n + 1 - (i + 1), by omega, h₃, tk₃, i + 1, ys, rfl, hst₃, hacc₃, Nat.le_succ_of_le hlen, any₃, h₄, hlt, rfl, fun b o hbB hbf hbD e => g₃ b o (up₂ b o hbB hbf (hk b o hbB hbf hbD e))⟩
    | true =>
      simp only [if_true] at h₄ ⊢
      refine wpAny_mono h₄ (fun y s₅ h₅ => ?_) fun _ _ e => e
      obtain ⟨kp₅, hJ₅⟩ := h₅
      obtain ⟨h₄', tk₄, rfl⟩ := kp₅.near
      have g₄ : ∀ b o, h₃.get? b = some o → h₄'.get? b = some o := kp₅.get
      refine wpAny_list_append_plain (hsz := by simp only [List.size_toArray]; omega) (hacc₃.at fun o e => g₄ _ o e) fun h₅ hl₅ hs₅ => ?_
      refine ⟨n + 1 - (i + 1), by omega, h₅, tk₄, i + 1, ys ++ [y], rfl, ?_, by simpa using hl₅, by simp only [List.length_append, List.length_singleton]; omega, K.keepA _ _ any₃ fun o e => hs₅.extBut _ _ (Ne.symm hDB) (g₄ _ o e), hJ₅, hlt, rfl,
        fun b o hbB hbf hbD e => hs₅.extBut b o hbD (g₄ b o (g₃ b o (up₂ b o hbB hbf (hk b o hbB hbf hbD e))))⟩
      exact W.frame _ _ h₅ hst₃ fun b hb o e => hs₅.extBut b o (fun h => hDf (h ▸ hb)) (g₄ b o e)
  · have hin : i = n := by omega
    subst hin
    refine W.done _ _ _ hst' fun h₁ tk₁ hk₁ => ?_
    exact fin h₁ tk₁ ys hJ' (K.keepA _ _ hany' fun o e => hk₁ _ o hBw e) (hacc'.at fun o e => hk₁ _ o hDw e) fun b o hbB hbf hbD e => hk₁ b o hbf (hk b o hbB hbf hbD e)

noncomputable def CTurn (prog : Program) (w : World) (A : Around) (env : Env) (scope : Scope) (cl : List (Str × Addr)) (x : Str) (ifs : List Expr) (elt : Expr) (wr : List Addr) (n : Nat) (P : Nat → Value → Prop) (J : Nat → List Value → Prop) (s₂ : Shared) : Prop :=
  ∀ C m i v acc s₃ E', i < n → P i v → J i acc → s₃.heap.Ns C m → m x = some v → (∀ b o, b ∉ wr → s₂.heap.get? b = some o → s₃.heap.get? b = some o) →
    wpAny (model prog w) A (cTests ifs (compEnvC scope cl C env)) (fun ok s₄ => Kp s₃ s₄ ∧ (if ok = true then wpAny (model prog w) A (eval elt (compEnvC scope cl C env)) (fun y s₅ => Kp s₄ s₅ ∧ J (i + 1) (acc ++ [y])) E' s₄ else J (i + 1) acc)) E' s₃
noncomputable def CTurnC (prog : Program) (w : World) (A : Around) (env : Env) (scope : Scope) (cl : List (Str × Addr)) (x : Str) (ifs : List Expr) (elt : Expr) (wr : List Addr) (n : Nat) (P : Nat → Value → Prop) (J : Nat → List Value → Prop) (s₂ : Shared) : Prop :=
  ∀ C c i v acc s₃ E', i < n → P i v → J i acc → s₃.heap.IsCell c (some v) → (∀ b o, b ∉ wr → s₂.heap.get? b = some o → s₃.heap.get? b = some o) →
    wpAny (model prog w) A (cTests ifs (compEnvC scope ((x, c) :: cl) C env)) (fun ok s₄ => Kp s₃ s₄ ∧ (if ok = true then wpAny (model prog w) A (eval elt (compEnvC scope ((x, c) :: cl) C env)) (fun y s₅ => Kp s₄ s₅ ∧ J (i + 1) (acc ++ [y])) E' s₄ else J (i + 1) acc)) E' s₃

theorem cblock {elt iter : Expr} {x : Str} {px : Pos} {ifs : List Expr} {scope : Scope} {cl : List (Str × Addr)} {pos : Pos} {s₂ : Shared} {I : Addr} {fp wr : List Addr} {n : Nat} {P : Nat → Value → Prop}
    {S : Nat → Heap → Prop} (W : Walks prog w A I fp wr n P S) (hsz : n ≤ sizeLine) (J : Nat → List Value → Prop) {RR : Value → Addr → Result → Shared → Prop}
    (hcell : ∀ y ∈ scope.names, y.2 ≠ .cell) (hkind : scope.kind = .function) (hx : scope.names.lookup x = some .local) (hst : S 0 s₂.heap) (hfp : ∀ b ∈ fp, b < s₂.heap.objs.size) (hJ : J 0 [])
    (ht : CTurn prog w A env scope cl x ifs elt wr n P J s₂)
    (hRR : ∀ D C h' tk m' ys, s₂.heap.get? D = none → s₂.heap.get? C = none → D ≠ C → h'.Ns C m' → h'.PlainList D ys.toArray → J n ys →
      (∀ b o, b ∉ wr → s₂.heap.get? b = some o → h'.get? b = some o) → RR (.ref D) C (.ok .next) { s₂ with heap := h', toks := tk }) :
    wpAny (model prog w) A (newList []) (fun acc s₃ => wpAny (model prog w) A (newFunctionEnv scope env.globals cl [] env.qual none .none (some env)) (fun cenv s₄ =>
      codeAny (model prog w) A (.compStart (.ListComp elt [⟨.Name x px, iter, ifs, 0⟩] scope pos) 0 (.ref I) acc { cenv with scope := relabel scope env }) (RR acc cenv.locals) s₄) E s₃) E s₂ := by
  refine wpAny_newObj_type (wpAny_newFunctionEnv hcell (by intro y hy; simp at hy) (fun h₁ hns₁ hsb₁ => ?_) hkind)
  dsimp only at hns₁ hsb₁ ⊢
  generalize hH2 : s₂.heap.push { cls := .type "list", dict := none, data := .seq ([] : List Value).toArray } = H2 at hns₁ hsb₁ ⊢
  have hC : H2.objs.size = s₂.heap.objs.size + 1 := by rw [← hH2, Heap.size_push]
  have hDC : s₂.heap.objs.size ≠ H2.objs.size := by omega
  have below : ∀ b, b < s₂.heap.objs.size → b ≠ H2.objs.size ∧ b ≠ s₂.heap.objs.size := fun b hb => ⟨by omega, by omega⟩
  have hDf : s₂.heap.objs.size ∉ fp := fun hm => Nat.lt_irrefl _ (hfp _ hm)
  have hCf : H2.objs.size ∉ fp := fun hm => by have h9 : (H2.objs.size : Nat) < s₂.heap.objs.size := hfp _ hm; omega
  have old : ∀ b o, s₂.heap.get? b = some o → h₁.get? b = some o := fun b o e => hsb₁.extBut b o (below b (Heap.lt_size e)).1 (Heap.get?_push_of_some _ (hH2 ▸ Heap.get?_push_of_some _ e))
  have hacc : h₁.PlainList s₂.heap.objs.size #[] := ⟨_, hsb₁.extBut _ _ hDC (Heap.get?_push_of_some _ (hH2 ▸ Heap.get?_push_size _ rfl))⟩
  have hst₁ : S 0 h₁ := W.frame _ _ _ hst fun b _ o e => old b o e
  have fresh : ∀ a, s₂.heap.objs.size ≤ a → s₂.heap.get? a = none := fun a ha => by
    cases e : s₂.heap.get? a with
    | none => rfl
    | some o' => exact absurd (Heap.lt_size e) (Nat.not_lt.mpr ha)
  have loop : ∀ s₃ : Shared, s₃ = { s₂ with heap := h₁, toks := s₂.toks + ([] : List (Str × Value)).length } →
      codeAny (model prog w) A (.compLoop (.ListComp elt [⟨.Name x px, iter, ifs, 0⟩] scope pos) 0 (.ref I) (.ref s₂.heap.objs.size) (compEnvC scope cl H2.objs.size env))
        (RR (.ref s₂.heap.objs.size) H2.objs.size) s₃ := by
    rintro s₃ rfl
    refine cloop (target := .Name x px) (cenv := compEnvC scope cl H2.objs.size env) W J (binder_loc (lookup_relabel_local hx) (by simp [compEnvC, relabel, hkind])) hDC hDf hCf hst₁ hacc ⟨_, hns₁⟩ hJ
      (fun i v acc s₃ E' hi hP hJ' hb hk => ?_) (fun h' tk ys hJ' ha hl hk => ?_) hsz
    · obtain ⟨m, hn, hm⟩ := hb
      exact ht _ m i v acc s₃ E' hi hP hJ' hn hm fun b o hbf e => hk b o (below b (Heap.lt_size e)).1 hbf (below b (Heap.lt_size e)).2 (old b o e)
    · obtain ⟨m, hn⟩ := ha
      exact hRR _ H2.objs.size h' tk m ys (fresh _ (Nat.le_refl _)) (fresh _ (by omega)) hDC hn hl hJ' fun b o hbf e => hk b o (below b (Heap.lt_size e)).1 hbf (below b (Heap.lt_size e)).2 (old b o e)
  exact codeAny_compStart_list (loop _ rfl) (W.self 0 _ _ _ hst₁ (loop _ rfl))

theorem cblockC {elt iter : Expr} {x : Str} {px : Pos} {ifs : List Expr} {scope : Scope} {cl : List (Str × Addr)} {pos : Pos} {s₂ : Shared} {I : Addr} {fp wr : List Addr} {n : Nat} {P : Nat → Value → Prop}
    {S : Nat → Heap → Prop} (W : Walks prog w A I fp wr n P S) (hsz : n ≤ sizeLine) (J : Nat → List Value → Prop) {RR : Value → Addr → Result → Shared → Prop}
    (hcells : ∀ k, cellsFrom k scope.names cl = (x, k) :: cl) (hpush : ∀ h, pushCells h scope.names = h.push { cls := .type "cell", data := .cell none })
    (hkind : scope.kind = .function) (hx : ∀ C c, (compEnvC scope ((x, c) :: cl) C env).kindOf x = some .cell) (hst : S 0 s₂.heap) (hfp : ∀ b ∈ fp, b < s₂.heap.objs.size) (hJ : J 0 [])
    (ht : CTurnC prog w A env scope cl x ifs elt wr n P J s₂)
    (hRR : ∀ D C h' tk m' ys, s₂.heap.get? D = none → s₂.heap.get? C = none → D ≠ C → h'.Ns C m' → h'.PlainList D ys.toArray → J n ys →
      (∀ b o, b ∉ wr → s₂.heap.get? b = some o → h'.get? b = some o) → RR (.ref D) C (.ok .next) { s₂ with heap := h', toks := tk }) :
    wpAny (model prog w) A (newList []) (fun acc s₃ => wpAny (model prog w) A (newFunctionEnv scope env.globals cl [] env.qual none .none (some env)) (fun cenv s₄ =>
      codeAny (model prog w) A (.compStart (.ListComp elt [⟨.Name x px, iter, ifs, 0⟩] scope pos) 0 (.ref I) acc { cenv with scope := relabel scope env }) (RR acc cenv.locals) s₄) E s₃) E s₂ := by
  refine wpAny_newObj_type ?_
  simp only [newFunctionEnv, Option.isSome_some, if_true]
  refine wpAny_bind (wpAny_alloc ?_)
  refine wpAny_bind (wpAny_layCells _ (fun name kind cells => by cases hkc : kind == NameKind.cell <;> simp [hkc]) _ _ _ _ ?_)
  rw [hcells, hpush]
  refine wpAny_bind (wpAny_pure ?_)
  refine wpAny_pure ?_
  dsimp only
  generalize hH2 : s₂.heap.push { cls := .type "list", dict := none, data := .seq ([] : List Value).toArray } = H2
  have hC : H2.objs.size = s₂.heap.objs.size + 1 := by rw [← hH2, Heap.size_push]
  have hC' : (H2.push { cls := .type "dict", data := .dict #[] }).objs.size = s₂.heap.objs.size + 2 := by rw [Heap.size_push, hC]
  generalize hH3 : H2.push { cls := .type "dict", data := .dict #[] } = H3 at hC' ⊢
  generalize hH4 : H3.push { cls := .type "cell", data := .cell none } = H4
  have below : ∀ b, b < s₂.heap.objs.size → b ≠ H3.objs.size ∧ b ≠ s₂.heap.objs.size := fun b hb => ⟨by omega, by omega⟩
  have hDf : s₂.heap.objs.size ∉ fp := fun hm => Nat.lt_irrefl _ (hfp _ hm)
  have hCf : H3.objs.size ∉ fp := fun hm => by have h9 : (H3.objs.size : Nat) < s₂.heap.objs.size := hfp _ hm; omega
  have old : ∀ b o, s₂.heap.get? b = some o → H4.get? b = some o := fun b o e => hH4 ▸ Heap.get?_push_of_some _ (hH3 ▸ Heap.get?_push_of_some _ (hH2 ▸ Heap.get?_push_of_some _ e))
  have hacc : H4.PlainList s₂.heap.objs.size #[] := ⟨_, hH4 ▸ Heap.get?_push_of_some _ (hH3 ▸ Heap.get?_push_of_some _ (hH2 ▸ Heap.get?_push_size _ rfl))⟩
  have hns : H4.Ns H2.objs.size fun _ => none := hH4 ▸ (hH3 ▸ Heap.Ns.new H2 (.type "dict")).push _
  have hcl : H4.IsCell H3.objs.size none := ⟨_, hH4 ▸ Heap.get?_push_size _ rfl, rfl⟩
  have n1 : s₂.heap.objs.size ≠ H3.objs.size := by omega
  have n2 : s₂.heap.objs.size ≠ H2.objs.size := by omega
  have n3 : H2.objs.size ≠ H3.objs.size := by omega
  have hst₁ : S 0 H4 := W.frame _ _ _ hst fun b _ o e => old b o e
  have fresh : ∀ a, s₂.heap.objs.size ≤ a → s₂.heap.get? a = none := fun a ha => by
    cases e : s₂.heap.get? a with
    | none => rfl
    | some o' => exact absurd (Heap.lt_size e) (Nat.not_lt.mpr ha)
  have loop : ∀ s₃ : Shared, s₃ = { s₂ with heap := H4 } →
      codeAny (model prog w) A (.compLoop (.ListComp elt [⟨.Name x px, iter, ifs, 0⟩] scope pos) 0 (.ref I) (.ref s₂.heap.objs.size) (compEnvC scope ((x, H3.objs.size) :: cl) H2.objs.size env))
        (RR (.ref s₂.heap.objs.size) H2.objs.size) s₃ := by
    rintro s₃ rfl
    refine cloop (target := .Name x px) (cenv := compEnvC scope ((x, H3.objs.size) :: cl) H2.objs.size env) (B := H3.objs.size) W J (binder_cell (hx _ _) (by simp [compEnvC, relabel, hkind]) (by simp [compEnvC])) n1 hDf hCf hst₁ hacc ⟨_, hcl⟩ hJ
      (fun i v acc s₃ E' hi hP hJ' hb hk => ?_) (fun h' tk ys hJ' ha hl hk => ?_) hsz
    · exact ht _ _ i v acc s₃ E' hi hP hJ' hb fun b o hbf e => hk b o (below b (Heap.lt_size e)).1 hbf (below b (Heap.lt_size e)).2 (old b o e)
    · have hw : H2.objs.size ∉ wr := fun hm => by have h9 : (H2.objs.size : Nat) < s₂.heap.objs.size := hfp _ (W.sub _ hm); omega
      refine hRR _ H2.objs.size h' tk _ ys (fresh _ (Nat.le_refl _)) (fresh _ (by omega)) n2 (hns.at' fun o e => hk _ o n3 hw (Ne.symm n2) e) hl hJ' fun b o hbf e => hk b o (below b (Heap.lt_size e)).1 hbf (below b (Heap.lt_size e)).2 (old b o e)
  exact codeAny_compStart_list (loop _ rfl) (W.self 0 _ _ _ hst₁ (loop _ rfl))
end
end Mine
end

-- B3
section
open PySem PySem.W PyProof.Rows PySem.Calls
set_option Elab.async false
set_option linter.unusedVariables false
namespace Mine

noncomputable def Src (prog : Program) (w : World) (A : Around) (n : Nat) (P : Nat → Value → Prop) (s₁ : Shared) (it : Value) (s₂ : Shared) : Prop :=
  ∃ I fp wr S, it = .ref I ∧ Walks prog w A I fp wr n P S ∧ S 0 s₂.heap ∧ (∀ b ∈ fp, b < s₂.heap.objs.size) ∧ Kp s₁ s₂ ∧ (∀ b ∈ wr, s₁.heap.get? b = none)

theorem fresh_size (h : Heap) {a : Addr} (ha : h.objs.size ≤ a) : h.get? a = none := by
  cases e : h.get? a with
  | none => rfl
  | some o' => exact absurd (Heap.lt_size e) (Nat.not_lt.mpr ha)

section
variable {prog : Program} {w : World} {A : Around} {E : Value → Shared → Prop} {env : Env} {s : Shared}

theorem src_list (hh : A.handled = none) {a : Addr} {vs : List Value} (hl : s.heap.IsList a vs.toArray) {Q : Value → Shared → Prop}
    (h : ∀ it s₂, Src prog w A vs.length (fun i v => vs[i]? = some v) s it s₂ → Q it s₂) : wpAny (model prog w) A (pyIter (.ref a)) Q E s := by
  refine wpAny_pyIter_list hl ?_
  obtain ⟨ol, hol, _⟩ := id hl
  have hne : a ≠ s.heap.objs.size := Nat.ne_of_lt (Heap.lt_size hol)
  have W := Walks.list (prog := prog) (w := w) hh s.heap.objs.size a hne vs.toArray
  rw [List.size_toArray] at W
  have e : (fun (i : Nat) (v : Value) => vs.toArray[i]? = some v) = fun i v => vs[i]? = some v := by funext i v; simp
  rw [e] at W
  refine h _ _ ⟨_, _, _, _, rfl, W, ⟨⟨_, Heap.get?_push_size _ rfl, rfl, rfl⟩, hl.at fun o e => Heap.get?_push_of_some _ e⟩, fun b hb => ?_, Kp.push _ _ _, fun b hb => ?_⟩
  · have hsz : (s.heap.push { cls := .type "list_iterator", data := .fields #[.ref a, .int 0 0] }).objs.size = s.heap.objs.size + 1 := Heap.size_push ..
    show b < (s.heap.push _).objs.size
    rw [hsz]
    rcases List.mem_cons.mp hb with e | hb
    · rw [e]; exact Nat.lt_succ_self _
    · rw [List.mem_singleton.mp hb]; exact Nat.lt_succ_of_lt (Heap.lt_size hol)
  · rw [List.mem_singleton.mp hb]; exact fresh_size _ (Nat.le_refl _)

theorem src_range (hh : A.handled = none) {r : Addr} {n : Nat} {t u v : Tok} (hr : IsRange s.heap r 0 (n : Int) 1 t u v) (hn : n < 2 ^ 62) {Q : Value → Shared → Prop}
    (h : ∀ it s₂, Src prog w A n (fun i v => ∃ t, v = .int (i : Int) t) s it s₂ → Q it s₂) : wpAny (model prog w) A (pyIter (.ref r)) Q E s := by
  refine wpAny_pyIter_range hr (small_one (by decide) (by decide) (by omega) (by omega)) ?_
  have W := Walks.range (prog := prog) (w := w) hh s.heap.objs.size 0 1 n
  have e : (fun (i : Nat) (v : Value) => ∃ t, v = .int ((0 : Int) + i * 1) t) = fun i v => ∃ t, v = .int (i : Int) t := by funext i v; simp
  rw [e] at W
  have e2 : Builtin.Range.rangeSize 0 (n : Int) 1 = n := by rw [rangeSize_one]; split <;> omega
  refine h _ _ ⟨_, _, _, _, rfl, W, ?_, fun b hb => ?_, Kp.push _ _ _, fun b hb => ?_⟩
  · rw [e2]
    have := Heap.get?_push_size (h := s.heap) (o := { cls := .type "range_iterator", data := .fields #[rawInt 0, rawInt n, rawInt 1] }) rfl
    simpa [IsRangeIter] using this
  · rw [List.mem_singleton.mp hb]
    show _ < (s.heap.push _).objs.size
    rw [Heap.size_push]; exact Nat.lt_succ_self _
  · rw [List.mem_singleton.mp hb]; exact fresh_size _ (Nat.le_refl _)

theorem cturn_wr {scope : Scope} {cl : List (Str × Addr)} {x : Str} {ifs : List Expr} {elt : Expr} {n : Nat} {P : Nat → Value → Prop} {J : Nat → List Value → Prop} {s₁ s₂ : Shared} {wr : List Addr}
    (k : Kp s₁ s₂) (hw : ∀ b ∈ wr, s₁.heap.get? b = none) (t : CTurn prog w A env scope cl x ifs elt [] n P J s₁) : CTurn prog w A env scope cl x ifs elt wr n P J s₂ :=
  fun C m i v acc s₃ E' hi hP hJ hn hm hk => t C m i v acc s₃ E' hi hP hJ hn hm fun b o _ e => hk b o (fun hb => by rw [hw b hb] at e; cases e) (k.get b o e)
theorem cturnC_wr {scope : Scope} {cl : List (Str × Addr)} {x : Str} {ifs : List Expr} {elt : Expr} {n : Nat} {P : Nat → Value → Prop} {J : Nat → List Value → Prop} {s₁ s₂ : Shared} {wr : List Addr}
    (k : Kp s₁ s₂) (hw : ∀ b ∈ wr, s₁.heap.get? b = none) (t : CTurnC prog w A env scope cl x ifs elt [] n P J s₁) : CTurnC prog w A env scope cl x ifs elt wr n P J s₂ :=
  fun C c i v acc s₃ E' hi hP hJ hc hk => t C c i v acc s₃ E' hi hP hJ hc fun b o _ e => hk b o (fun hb => by rw [hw b hb] at e; cases e) (k.get b o e)

theorem lc {elt iter : Expr} {x : Str} {px : Pos} {ifs : List Expr} {scope : Scope} {cl : List (Str × Addr)} {pos : Pos} {Q : Value → Shared → Prop} {n : Nat} {P : Nat → Value → Prop} (J : Nat → List Value → Prop)
    (hclos : closureFor scope env = pure cl)
    (h : wpAny (model prog w) A (eval iter env) (fun xv s₁ => wpAny (model prog w) A (pyIter xv) (fun it s₂ => Src prog w A n P s₁ it s₂ ∧ CTurn prog w A env scope cl x ifs elt [] n P J s₁ ∧
      (∀ D s' ys, s₁.heap.get? D = none → Kp s₁ s' → s'.heap.PlainList D ys.toArray → J n ys → Q (.ref D) s')) E s₁) E s) (hJ : J 0 [])
    (hsz : n ≤ sizeLine := by decide)
    (hcell : ∀ y ∈ scope.names, y.2 ≠ .cell := by decide) (hkind : scope.kind = .function := by rfl)
    (hnames : ∀ y ∈ scope.names, y.2 = .local → scope.names.lookup y.1 = some .local := by decide) (hx : scope.names.lookup x = some .local := by rfl)
    (hs : ∀ x, foldedSetIterable iter env x = pure x := by intro _; rfl) :
    wpAny (model prog w) A (eval (.ListComp elt [⟨.Name x px, iter, ifs, 0⟩] scope pos) env) Q E s := by
  rw [eval_ListComp]
  refine wpAny_comprehension_free (use := none) rfl hs hclos hkind hnames (wpAny_mono h (fun xv s₁ h₁ => wpAny_mono h₁ (fun it s₂ h₂ => ?_) fun _ _ e => e) fun _ _ e => e)
  obtain ⟨⟨I, fp, wr, S, rfl, W, hst, hfp, k₁₂, hw⟩, ht, hQ⟩ := h₂
  refine cblock (RR := fun acc C => compPost (model prog w) A E none Q acc C) W hsz J hcell hkind hx hst hfp hJ (cturn_wr k₁₂ hw ht) ?_
  intro D C h' tk m' ys hD hC hDC hn hl hJ' hk
  refine ⟨m', hn, fun h'' hs'' => hQ D _ ys ?_ ?_ (hl.extBut hs''.extBut hDC) hJ'⟩
  · cases e : s₁.heap.get? D with
    | none => rfl
    | some o => rw [k₁₂.get _ _ e] at hD; cases hD
  · obtain ⟨h2, t2, rfl⟩ := k₁₂.near
    exact ⟨⟨h'', tk, rfl⟩, fun b o e => hs''.extBut b o (by rintro rfl; rw [k₁₂.get _ _ e] at hC; cases hC) (hk b o (fun hb => by rw [hw b hb] at e; cases e) (k₁₂.get _ _ e))⟩

theorem lcC {elt iter : Expr} {x : Str} {px : Pos} {ifs : List Expr} {scope : Scope} {cl : List (Str × Addr)} {pos : Pos} {Q : Value → Shared → Prop} {n : Nat} {P : Nat → Value → Prop} (J : Nat → List Value → Prop)
    (hclos : closureFor scope env = pure cl)
    (h : wpAny (model prog w) A (eval iter env) (fun xv s₁ => wpAny (model prog w) A (pyIter xv) (fun it s₂ => Src prog w A n P s₁ it s₂ ∧ CTurnC prog w A env scope cl x ifs elt [] n P J s₁ ∧
      (∀ D s' ys, s₁.heap.get? D = none → Kp s₁ s' → s'.heap.PlainList D ys.toArray → J n ys → Q (.ref D) s')) E s₁) E s) (hJ : J 0 [])
    (hsz : n ≤ sizeLine := by decide)
    (hcells : ∀ k, cellsFrom k scope.names cl = (x, k) :: cl := by intro _; rfl) (hpush : ∀ h, pushCells h scope.names = h.push { cls := .type "cell", data := .cell none } := by intro _; rfl)
    (hkind : scope.kind = .function := by rfl) (hx : ∀ C c, (compEnvC scope ((x, c) :: cl) C env).kindOf x = some .cell := by intro _ _; rfl)
    (hnames : ∀ y ∈ scope.names, y.2 = .local → scope.names.lookup y.1 = some .local := by decide)
    (hs : ∀ x, foldedSetIterable iter env x = pure x := by intro _; rfl) :
    wpAny (model prog w) A (eval (.ListComp elt [⟨.Name x px, iter, ifs, 0⟩] scope pos) env) Q E s := by
  rw [eval_ListComp]
  refine wpAny_comprehension_free (use := none) rfl hs hclos hkind hnames (wpAny_mono h (fun xv s₁ h₁ => wpAny_mono h₁ (fun it s₂ h₂ => ?_) fun _ _ e => e) fun _ _ e => e)
  obtain ⟨⟨I, fp, wr, S, rfl, W, hst, hfp, k₁₂, hw⟩, ht, hQ⟩ := h₂
  refine cblockC (RR := fun acc C => compPost (model prog w) A E none Q acc C) W hsz J hcells hpush hkind hx hst hfp hJ (cturnC_wr k₁₂ hw ht) ?_
  intro D C h' tk m' ys hD hC hDC hn hl hJ' hk
  refine ⟨m', hn, fun h'' hs'' => hQ D _ ys ?_ ?_ (hl.extBut hs''.extBut hDC) hJ'⟩
  · cases e : s₁.heap.get? D with
    | none => rfl
    | some o => rw [k₁₂.get _ _ e] at hD; cases hD
  · obtain ⟨h2, t2, rfl⟩ := k₁₂.near
    exact ⟨⟨h'', tk, rfl⟩, fun b o e => hs''.extBut b o (by rintro rfl; rw [k₁₂.get _ _ e] at hC; cases hC) (hk b o (fun hb => by rw [hw b hb] at e; cases e) (k₁₂.get _ _ e))⟩

theorem lcA {g : Heap} {L : Addr} {m : List (Str × Value)} {own : List (Addr × (Obj → Prop))} {s₀ : Shared}
    {elt iter : Expr} {x y : Str} {px py : Pos} {ifs : List Expr} {scope : Scope} {cl : List (Str × Addr)} {pos spos : Pos} {Q : Flow → Shared → Prop} {n : Nat} {P : Nat → Value → Prop} (J : Nat → List Value → Prop)
    (hclos : closureFor scope env = pure cl)
    (H₀ : St g L m own s₀ s)
    (h : wpAny (model prog w) A (eval iter env) (fun xv s₁ => Kp s s₁ ∧ wpAny (model prog w) A (pyIter xv) (fun it s₂ => Src prog w A n P s₁ it s₂ ∧ CTurn prog w A env scope cl x ifs elt [] n P J s₁ ∧
      (∀ D s' ys, s₁.heap.get? D = none → St g L ((y, .ref D) :: m) own s₀ s' → s'.heap.PlainList D ys.toArray → J n ys → D ≠ L → (∀ b o, b ≠ L → s₁.heap.get? b = some o → s'.heap.get? b = some o) → Q .next s')) E s₁) E s) (hJ : J 0 [])
    (hsw : swapsWith (.ListComp elt [⟨.Name x px, iter, ifs, 0⟩] scope pos) (some (.Name y py)) spos.line env = pure true := by rfl)
    (hL : env.locals = L := by rfl) (hy : env.kindOf y = some .local := by kernel_rfl) (hek : env.scope.kind = .function := by rfl)
    (hsz : n ≤ sizeLine := by decide)
    (hcell : ∀ y ∈ scope.names, y.2 ≠ .cell := by decide) (hkind : scope.kind = .function := by rfl)
    (hnames : ∀ y ∈ scope.names, y.2 = .local → scope.names.lookup y.1 = some .local := by decide) (hx : scope.names.lookup x = some .local := by rfl)
    (hs : ∀ x, foldedSetIterable iter env x = pure x := by intro _; rfl) :
    wpAny (model prog w) A (exec (.Assign [.Name y py] (.ListComp elt [⟨.Name x px, iter, ifs, 0⟩] scope pos) spos) env) Q E s := by
  subst hL
  rw [exec_Assign_Name_used _ _ _ _ hsw]
  refine wpAny_bind (wpAny_standAt (wpAny_bind ?_))
  show wpAny _ A (do let _ ← comprehension (.ListComp elt [⟨.Name x px, iter, ifs, 0⟩] scope pos) scope env _ (newList []) false (eval iter env) (some (assign (.Name y py) env))) _ _ s
  refine wpAny_bind (wpAny_mono (wpAny_comprehension_free (use := some (assign (.Name y py) env)) (Q := fun _ s' => Q .next s') rfl hs hclos hkind hnames
    (wpAny_mono h (fun xv s₁ h₁ => wpAny_mono h₁.2 (fun it s₂ h₂ => ?_) fun _ _ e => e) fun _ _ e => e)) (fun _ s' hq => wpAny_pure (wpAny_pure hq)) fun _ _ e => e)
  obtain ⟨⟨I, fp, wr, S, rfl, W, hst, hfp, k₁₂, hw⟩, ht, hQ⟩ := h₂
  have H := H₀.keeps h₁.1
  refine cblock (RR := fun acc C => compPost (model prog w) A E (some (assign (.Name y py) env)) (fun _ s' => Q .next s') acc C) W hsz J hcell hkind hx hst hfp hJ (cturn_wr k₁₂ hw ht) ?_
  intro D C h' tk m' ys hD hC hDC hnC hl hJ' hk
  obtain ⟨h2, t2, rfl⟩ := k₁₂.near
  have hD₁ : s₁.heap.get? D = none := by
    cases e : s₁.heap.get? D with
    | none => rfl
    | some o => rw [k₁₂.get _ _ e] at hD; cases hD
  have hC₁ : s₁.heap.get? C = none := by
    cases e : s₁.heap.get? C with
    | none => rfl
    | some o => rw [k₁₂.get _ _ e] at hC; cases hC
  have hk₁ : ∀ b o, s₁.heap.get? b = some o → h'.get? b = some o := fun b o e => hk b o (fun hb => by rw [hw b hb] at e; cases e) (k₁₂.get _ _ e)
  have H' : St g env.locals m own s₀ { s₁ with heap := h', toks := tk } := H.keeps ⟨⟨h', tk, rfl⟩, hk₁⟩
  have hLD : env.locals ≠ D := by rintro e; obtain ⟨o, _, _, ho, _⟩ := H.ns; rw [e, hD₁] at ho; cases ho
  have hLC : env.locals ≠ C := by rintro e; obtain ⟨o, _, _, ho, _⟩ := H.ns; rw [e, hC₁] at ho; cases ho
  show wpAny _ A (assign (.Name y py) env (.ref D)) _ _ _
  refine wpAny_assign_Name (wpAny_storeName_local hy H'.ns (fun h₂ hn₂ hs₂ => ?_) (by rw [hek]; rfl))
  refine ⟨m', hnC.sameBut hs₂ (Ne.symm hLC), fun h₃ hs₃ => ?_⟩
  have H₂ : St g env.locals ((y, .ref D) :: m) own s₀ { s₁ with heap := h₂, toks := tk + 1 } := H'.put hn₂ hs₂
  have up : ∀ b o, b ≠ C → h₂.get? b = some o → h₃.get? b = some o := fun b o hb e => hs₃.extBut b o hb e
  refine hQ D _ ys hD₁ ?_ ((hl.extBut hs₂.extBut (Ne.symm hLD)).extBut hs₃.extBut hDC) hJ' (Ne.symm hLD) fun b o hbL e => hs₃.extBut b o (fun q => by rw [q, hC₁] at e; cases e) (hs₂.extBut b o hbL (hk₁ b o e))
  refine ⟨let ⟨a, b, e⟩ := H₂.near; ⟨h₃, tk + 1, by cases s₀; cases s₁; cases e; rfl⟩, H₂.ns.sameBut hs₃ hLC, fun b o e => up b o (fun q => ?_) (H₂.keep b o e), H₂.above, fun p hp => ?_, H₂.apart⟩
  · have := H.keep _ _ e; rw [q, hC₁] at this; cases this
  · obtain ⟨⟨o, ho, hp'⟩, r⟩ := H₂.owns p hp
    refine ⟨⟨o, up _ _ (fun q => ?_) ho, hp'⟩, r⟩
    obtain ⟨⟨o', ho', _⟩, _⟩ := H.owns p hp
    rw [q, hC₁] at ho'; cases ho'
end
end Mine
end

-- B4
section
open PySem PySem.W PyProof.Rows PySem.Calls
set_option Elab.async false
set_option linter.unusedVariables false
set_option linter.unusedSimpArgs false
namespace Mine

theorem star_cons {env : Env} {rest : List Expr} : ∀ {e : Expr}, isStarred e = false → starEach (e :: rest) env = (false, eval e env) :: starEach rest env
  | .Starred _ _, h => by cases h
  | .BoolOp _ _ _, _ => rfl
  | .NamedExpr _ _ _, _ => rfl
  | .BinOp _ _ _ _, _ => rfl
  | .UnaryOp _ _ _, _ => rfl
  | .Lambda _ _ _ _, _ => rfl
  | .IfExp _ _ _ _, _ => rfl
  | .Dict _ _ _, _ => rfl
  | .Set _ _ _, _ => rfl
  | .ListComp _ _ _ _, _ => rfl
  | .SetComp _ _ _ _, _ => rfl
  | .DictComp _ _ _ _ _, _ => rfl
  | .GeneratorExp _ _ _ _, _ => rfl
  | .Await _ _, _ => rfl
  | .Yield _ _, _ => rfl
  | .YieldFrom _ _, _ => rfl
  | .Compare _ _ _ _, _ => rfl
  | .Call _ _ _ _, _ => rfl
  | .FormattedValue _ _ _ _, _ => rfl
  | .JoinedStr _ _, _ => rfl
  | .Constant _ _ _, _ => rfl
  | .Attribute _ _ _, _ => rfl
  | .Subscript _ _ _, _ => rfl
  | .Name _ _, _ => rfl
  | .List _ _, _ => rfl
  | .Tuple _ _ _, _ => rfl
  | .Slice _ _ _ _, _ => rfl
theorem star_all {env : Env} : ∀ {args : List Expr}, args.all (fun e => !isStarred e) = true → (starEach args env).all (fun x => !x.1) = true
  | [], _ => rfl
  | e :: r, h => by
    rw [List.all_cons, Bool.and_eq_true] at h
    rw [star_cons (by simpa using h.1), List.all_cons, star_all h.2]
    rfl
theorem star_any {env : Env} {pos : Pos} : ∀ {args : List Expr}, args.all (fun e => !isStarred e) = true → (backTo pos (starEach args env)).any (·.1) = false
  | [], _ => rfl
  | e :: r, h => by
    rw [List.all_cons, Bool.and_eq_true] at h
    have ih := star_any (env := env) (pos := pos) h.2
    unfold backTo at ih ⊢
    rw [star_cons (by simpa using h.1), List.map_cons, List.any_cons, ih]
    rfl

noncomputable def bl (kindOf : Str → Option NameKind) (binds : List (Str × Value)) : List (Str × Value) := (binds.filter fun p => decide (kindOf p.1 = some .local)).reverse
noncomputable def bc (kindOf : Str → Option NameKind) (binds : List (Str × Value)) : List (Str × Value) := (binds.filter fun p => !decide (kindOf p.1 = some .local)).reverse

theorem bindL_look (kindOf : Str → Option NameKind) : ∀ (binds : List (Str × Value)) (m : Str → Option Value) (y : Str), bindL kindOf binds m y = ((bl kindOf binds).lookup y).or (m y)
  | [], m, y => by simp [bindL, bl]
  | (n, v) :: r, m, y => by
    rw [bindL, bindL_look kindOf r]
    by_cases h : kindOf n = some .local
    · simp only [h, if_true, bl, List.filter_cons, decide_true, List.reverse_cons, List.lookup_append]
      cases (List.lookup y (List.filter (fun p => decide (kindOf p.1 = some NameKind.local)) r).reverse) with
      | some u => simp
      | none =>
        by_cases hy : y = n
        · subst hy; simp
        · have : (y == n) = false := by simpa using hy
          simp [hy, List.lookup_cons, this]
    · simp [h, bl, List.filter_cons]
theorem bindC_look (kindOf : Str → Option NameKind) : ∀ (binds : List (Str × Value)) (m : Str → Option Value) (y : Str), bindC kindOf binds m y = ((bc kindOf binds).lookup y).or (m y)
  | [], m, y => by simp [bindC, bc]
  | (n, v) :: r, m, y => by
    rw [bindC, bindC_look kindOf r]
    by_cases h : kindOf n = some .local
    · simp [h, bc, List.filter_cons]
    · simp only [h, if_false, bc, List.filter_cons, decide_false, Bool.not_false, if_true, List.reverse_cons, List.lookup_append]
      cases (List.lookup y (List.filter (fun p => !decide (kindOf p.1 = some NameKind.local)) r).reverse) with
      | some u => simp
      | none =>
        by_cases hy : y = n
        · subst hy; simp
        · have : (y == n) = false := by simpa using hy
          simp [hy, List.lookup_cons, this]

section
variable {prog : Program} {w : World} {A : Around} {s : Shared} {R : Result → Shared → Prop} {f : Addr} {oc : Value} {od : Option Addr} {osl : Array (Option Value)} {name qual : Str} {params : Arguments} {body : List Stmt} {scope : Scope}
  {dV kV doc pm cdv ct : Value} {an : Option Addr}

theorem enter {args : Args} {binds : List (Str × Value)} (B : Bs w s.heap) (hroom : A.depth < recursionLimit)
    (ho : List.lookup f (Mine.hd.heap_39 w.params) = some ⟨oc, od, .func (fnOf name qual params body scope dV kV doc pm an cdv ct), osl⟩) (hcd : codeIn (Mine.hd.heap_39 w.params) cdv qual = true)
    (hbind : BindsTo s (fnOf name qual params body scope dV kV doc pm an cdv ct) args binds) (hloc : ∀ y ∈ binds, scope.names.lookup y.1 = some .local)
    (h : ∀ s', St s.heap s.heap.objs.size binds.reverse [] s s' →
      wpAny (model prog w) (A.deeper (envOf qual scope s.heap.objs.size f cdv)) (execs body (envOf qual scope s.heap.objs.size f cdv))
        (fun fl s' => R (.ok (.ret (match fl with | .ret v => v | _ => .none))) s')
        (fun e s' => wpAny (model prog w) (A.deeper (envOf qual scope s.heap.objs.size f cdv)) (leaving (envOf qual scope s.heap.objs.size f cdv) e) (fun _ s'' => R (.error e) s'') (fun e' s'' => R (.error e') s'') s') s')
    (hco : scope.isCoroutine = false := by rfl) (hgen : scope.isGenerator = false := by rfl) (hk : scope.kind = .function := by rfl)
    (hcell : ∀ x ∈ scope.names, x.2 ≠ .cell := by decide) : codeAny (model prog w) A (.call (.ref f) args) R s := by
  refine codeAny_call_def (fd := fnOf name qual params body scope dV kV doc pm an cdv ct) (body := body) (binds := binds) hroom (B.X _ _ ho) rfl B.lim (codeRec_of B.X hcd) rfl hbind hcell hloc (fun h₁ hns hk₁ => ?_) hco hgen hk
  exact h _ ⟨⟨h₁, _, rfl⟩, hns, hk₁, fresh_size _ (Nat.le_refl _), fun _ hp => (nomatch hp), List.Pairwise.nil⟩

abbrev envC (qual : Str) (scope : Scope) (L f : Addr) (cdv : Value) : Env :=
  { scope := scope, locals := L, globals := mainGlobals, cells := cellsFrom (L + 1) scope.names [], qual := qual ++ ".<locals>.", func := some f, code := cdv, frame := some L, builtins := builtinsNs }
noncomputable def cellOwn (cells : List (Str × Addr)) (b : List (Str × Value)) : List (Addr × (Obj → Prop)) := cells.map fun p => (p.2, isC (b.lookup p.1))

theorem lookup_of_mem {α : Type} : ∀ {cs : List (Str × α)} {n : Str} {c : α}, (cs.map (·.1)).Pairwise (· ≠ ·) → (n, c) ∈ cs → cs.lookup n = some c
  | (k, v) :: r, n, c, hp, h => by
    rw [List.map_cons, List.pairwise_cons] at hp
    rcases List.mem_cons.mp h with e | h
    · cases e; simp
    · have : n ≠ k := fun q => hp.1 n (List.mem_map.mpr ⟨_, h, rfl⟩) q.symm
      have b : (n == k) = false := by simpa using this
      rw [List.lookup_cons, b]
      exact lookup_of_mem hp.2 h
theorem cellsFrom_names : ∀ (n : Nat) (names : List (Str × NameKind)) (acc : List (Str × Addr)), (cellsFrom n names acc).map (·.1) = ((names.filter fun p => p.2 == .cell).map (·.1)).reverse ++ acc.map (·.1)
  | n, [], acc => by simp [cellsFrom]
  | n, (x, k) :: r, acc => by
    unfold cellsFrom
    split
    · rename_i h; rw [cellsFrom_names]; simp [List.filter_cons, h]
    · rename_i h; rw [cellsFrom_names]; simp [List.filter_cons, h]

theorem enterC {vals : List Value} {binds : List (Str × Value)} (B : Bs w s.heap) (hroom : A.depth < recursionLimit)
    (ho : List.lookup f (Mine.hd.heap_39 w.params) = some ⟨oc, od, .func (fnOf name qual params body scope dV kV doc pm an cdv ct), osl⟩) (hcd : codeIn (Mine.hd.heap_39 w.params) cdv qual = true)
    (hbind : bindArgs (fnOf name qual params body scope dV kV doc pm an cdv ct) ⟨vals, []⟩ = pure binds)
    (hkind : KindsOk scope (s.heap.objs.size + 1) binds)
    (h : ∀ s', St s.heap s.heap.objs.size (bl (fun x => scope.names.lookup x) binds) (cellOwn (cellsFrom (s.heap.objs.size + 1) scope.names []) (bc (fun x => scope.names.lookup x) binds)) s s' →
      wpAny (model prog w) (A.deeper (envC qual scope s.heap.objs.size f cdv)) (execs body (envC qual scope s.heap.objs.size f cdv))
        (fun fl s' => R (.ok (.ret (match fl with | .ret v => v | _ => .none))) s')
        (fun e s' => wpAny (model prog w) (A.deeper (envC qual scope s.heap.objs.size f cdv)) (leaving (envC qual scope s.heap.objs.size f cdv) e) (fun _ s'' => R (.error e) s'') (fun e' s'' => R (.error e') s'') s') s')
    (hdist : ((scope.names.filter fun p => p.2 == .cell).map (·.1)).reverse.Pairwise (· ≠ ·) := by decide)
    (hco : scope.isCoroutine = false := by rfl) (hgen : scope.isGenerator = false := by rfl) (hk : scope.kind = .function := by rfl) : codeAny (model prog w) A (.call (.ref f) ⟨vals, []⟩) R s := by
  refine codeAny_call_cells (fd := fnOf name qual params body scope dV kV doc pm an cdv ct) hroom (B.X _ _ ho) rfl B.lim (codeRec_of B.X hcd) rfl hbind rfl (kinds_of hkind) (fun s₁ X => ?_) hco hgen hk
  refine h s₁ ⟨X.toInCall.same, ?_, X.toInCall.keep, fresh_size _ X.toInCall.fresh, fun p hp => ?_, ?_⟩
  · have := X.toInCall.ns
    have e : (bindL (callEnvC (fnOf name qual params body scope dV kV doc pm an cdv ct) s.heap.objs.size f).kindOf binds fun _ => none) = fun x => (bl (fun x => scope.names.lookup x) binds).lookup x := by
      funext y; rw [bindL_look]; simp; rfl
    exact e ▸ this
  · obtain ⟨q, hq, rfl⟩ := List.mem_map.mp hp
    have hl : (cellsFrom (s.heap.objs.size + 1) scope.names []).lookup q.1 = some q.2 := lookup_of_mem (by rw [cellsFrom_names]; simpa using hdist) hq
    obtain ⟨o, ho', hd⟩ := X.cell q.1 q.2 hl
    have hab : s.heap.objs.size < q.2 := X.above q.1 q.2 hq
    refine ⟨⟨o, ho', ?_⟩, Nat.ne_of_gt hab, fresh_size _ (Nat.le_of_lt hab)⟩
    show o.data = .cell _
    rw [hd, bindC_look]; simp; rfl
  · exact List.pairwise_map.mpr X.apart

end

section
variable {M : Model} {A : Around} {E : Value → Shared → Prop} {s : Shared} {env : Env}
theorem c_fn {w : World} {x : Str} {p pos : Pos} {e : Expr} {rest : List Expr} {fa : Addr} {Q : Value → Shared → Prop} (B : Bs w s.heap) (hx : nsIn (Mine.hd.heap_39 w.params) mainGlobals x = some (some (.ref fa))) (hf : fnIn (Mine.hd.heap_39 w.params) fa = true)
    (h : wpAny M A (spliced (backTo pos (starEach (e :: rest) env))) (fun vs s₁ => Bs w s₁.heap ∧ wpAny M A (call (.ref fa) vs) Q E s₁) E s)
    (he : isStarred e = false := by kernel_rfl)
    (hg : env.globals = mainGlobals := by kernel_rfl) (hk : env.scope.kind = .function := by kernel_rfl) (hkx : env.kindOf x = some .globalImplicit := by kernel_rfl) (hd : (x == ("__debug__" : Str)) = false := by kernel_rfl) :
    wpAny M A (eval (.Call (.Name x p) (e :: rest) [] pos) env) Q E s := by
  refine wpAny_Call_NameR (n_glob B hx ?_ hg hk hkx hd)
  have hfd : ∃ c d fd sl, List.lookup fa (Mine.hd.heap_39 w.params) = some ⟨c, d, .func fd, sl⟩ := by
    unfold fnIn at hf
    split at hf
    · rename_i c d fd sl q; exact ⟨c, d, fd, sl, q⟩
    · cases hf
  obtain ⟨c, d, fd, sl, q⟩ := hfd
  have key : backTo pos (starEach (e :: rest) env) = (false, eval e env) :: backTo pos (starEach rest env) := by rw [star_cons he]; rfl
  rw [key] at h ⊢
  refine callWith_function (o := ⟨c, d, .func fd, sl⟩) (fd := fd) (evalArgs_plain (wpAny_mono h (fun vs s₁ h₁ => ?_) fun _ _ y => y))
  exact ⟨⟨h₁.1.X _ _ q, rfl⟩, by simpa using h₁.2⟩
theorem c_ty {w : World} {x : Str} {p pos : Pos} {e : Expr} {rest : List Expr} {T : String} {Q : Value → Shared → Prop} (B : Bs w s.heap) (hx : nsIn (Mine.hd.heap_39 w.params) mainGlobals x = some none) (hv : bootBuiltins x = some (.type T))
    (h : wpAny M A (spliced (backTo pos (starEach (e :: rest) env))) (fun vs s₁ => wpAny M A (call (.type T) vs) Q E s₁) E s)
    (hpl : rest.all (fun e => !isStarred e) = true := by kernel_rfl)
    (he : isStarred e = false := by kernel_rfl)
    (hn : x ≠ "__name__" := by decide) (hg : env.globals = mainGlobals := by kernel_rfl) (hb : env.builtins = builtinsNs := by kernel_rfl) (hk : env.scope.kind = .function := by kernel_rfl) (hkx : env.kindOf x = some .globalImplicit := by kernel_rfl) (hd : (x == ("__debug__" : Str)) = false := by kernel_rfl) :
    wpAny M A (eval (.Call (.Name x p) (e :: rest) [] pos) env) Q E s :=
  wpAny_Call_NameR (n_built B hx hv (callWith_type1 h (star_cons he) (star_any hpl)) hn hg hb hk hkx hd)
theorem c_bi {w : World} {x : Str} {p pos : Pos} {e : Expr} {rest : List Expr} {id : String} {Q : Value → Shared → Prop} (B : Bs w s.heap) (hx : nsIn (Mine.hd.heap_39 w.params) mainGlobals x = some none) (hv : bootBuiltins x = some (.builtin id))
    (h : wpAny M A (spliced (backTo pos (starEach (e :: rest) env))) (fun vs s₁ => wpAny M A (call (.builtin id) vs) Q E s₁) E s)
    (hpl : rest.all (fun e => !isStarred e) = true := by kernel_rfl)
    (he : isStarred e = false := by kernel_rfl)
    (hn : x ≠ "__name__" := by decide) (hg : env.globals = mainGlobals := by kernel_rfl) (hb : env.builtins = builtinsNs := by kernel_rfl) (hk : env.scope.kind = .function := by kernel_rfl) (hkx : env.kindOf x = some .globalImplicit := by kernel_rfl) (hd : (x == ("__debug__" : Str)) = false := by kernel_rfl) :
    wpAny M A (eval (.Call (.Name x p) (e :: rest) [] pos) env) Q E s := by
  refine wpAny_Call_NameR (n_built B hx hv ?_ hn hg hb hk hkx hd)
  refine callWith_builtin (star_any (by rw [List.all_cons, he, hpl]; rfl)) ?_
  have key : backTo pos (starEach (e :: rest) env) = (false, eval e env) :: backTo pos (starEach rest env) := by rw [star_cons he]; rfl
  rw [key] at h ⊢
  exact evalArgs_plain (wpAny_mono h (fun vs s₁ h₁ => by simpa using h₁) fun _ _ y => y)
end
end Mine
namespace Mine
structure Deep (A A' : Around) : Prop where
  hh : A'.handled = A.handled
  hd : A'.depth = A.depth + 1
  hu : A'.units = A.units + 3
theorem Room.deep {A A' : Around} {d u d' u' : Nat} (R : Room A d u) (D : Deep A A') (h1 : d' + 1 ≤ d) (h2 : u' + 3 ≤ u) : Room A' d' u' :=
  ⟨D.hh.trans R.hh, by have := R.hd; have := D.hd; omega, by have := R.hu; have := D.hu; omega⟩
section
variable {prog : Program} {w : World} {A : Around} {s : Shared} {R : Result → Shared → Prop} {f : Addr} {oc : Value} {od : Option Addr} {osl : Array (Option Value)} {name qual : Str} {params : Arguments} {body : List Stmt} {scope : Scope}
  {dV kV doc pm cdv ct : Value} {an : Option Addr}
theorem enterR {args : Args} {binds : List (Str × Value)} (B : Bs w s.heap) (hroom : A.depth < recursionLimit)
    (ho : List.lookup f (Mine.hd.heap_39 w.params) = some ⟨oc, od, .func (fnOf name qual params body scope dV kV doc pm an cdv ct), osl⟩) (hcd : codeIn (Mine.hd.heap_39 w.params) cdv qual = true)
    (hbind : BindsTo s (fnOf name qual params body scope dV kV doc pm an cdv ct) args binds) (hloc : ∀ y ∈ binds, scope.names.lookup y.1 = some .local)
    (h : ∀ s' A', Deep A A' → St s.heap s.heap.objs.size binds.reverse [] s s' →
      wpAny (model prog w) A' (execs body (envOf qual scope s.heap.objs.size f cdv)) (fun fl s' => R (.ok (.ret (match fl with | .ret v => v | _ => .none))) s') (fun _ _ => False) s')
    (hco : scope.isCoroutine = false := by rfl) (hgen : scope.isGenerator = false := by rfl) (hk : scope.kind = .function := by rfl)
    (hcell : ∀ x ∈ scope.names, x.2 ≠ .cell := by decide) : codeAny (model prog w) A (.call (.ref f) args) R s :=
  enter B hroom ho hcd hbind hloc (fun s' H => wpAny_mono (h s' _ ⟨rfl, rfl, rfl⟩ H) (fun _ _ x => x) fun _ _ x => x.elim) hco hgen hk hcell
theorem enterCR {vals : List Value} {binds : List (Str × Value)} (B : Bs w s.heap) (hroom : A.depth < recursionLimit)
    (ho : List.lookup f (Mine.hd.heap_39 w.params) = some ⟨oc, od, .func (fnOf name qual params body scope dV kV doc pm an cdv ct), osl⟩) (hcd : codeIn (Mine.hd.heap_39 w.params) cdv qual = true)
    (hbind : bindArgs (fnOf name qual params body scope dV kV doc pm an cdv ct) ⟨vals, []⟩ = pure binds)
    (hkind : KindsOk scope (s.heap.objs.size + 1) binds)
    (h : ∀ s' A', Deep A A' → St s.heap s.heap.objs.size (bl (fun x => scope.names.lookup x) binds) (cellOwn (cellsFrom (s.heap.objs.size + 1) scope.names []) (bc (fun x => scope.names.lookup x) binds)) s s' →
      wpAny (model prog w) A' (execs body (envC qual scope s.heap.objs.size f cdv)) (fun fl s' => R (.ok (.ret (match fl with | .ret v => v | _ => .none))) s') (fun _ _ => False) s')
    (hdist : ((scope.names.filter fun p => p.2 == .cell).map (·.1)).reverse.Pairwise (· ≠ ·) := by decide)
    (hco : scope.isCoroutine = false := by rfl) (hgen : scope.isGenerator = false := by rfl) (hk : scope.kind = .function := by rfl) : codeAny (model prog w) A (.call (.ref f) ⟨vals, []⟩) R s :=
  enterC B hroom ho hcd hbind hkind (fun s' H => wpAny_mono (h s' _ ⟨rfl, rfl, rfl⟩ H) (fun _ _ x => x) fun _ _ x => x.elim) hdist hco hgen hk
end
end Mine
end

-- B5
section
open PySem PySem.W PyProof.Rows PySem.Calls
set_option Elab.async false
set_option linter.unusedVariables false
set_option linter.unusedSimpArgs false
namespace Mine
theorem nd_len : ∀ (n : Nat) (l : List Nat), l.Nodup → (∀ k ∈ l, k < n) → l.length ≤ n
  | 0, l, _, h => by
    cases l with
    | nil => simp
    | cons a r => exact absurd (h a (by simp)) (by omega)
  | n + 1, l, hn, h => by
    have h1 := nd_len n (l.erase n) (hn.erase n) (fun k hk => by
      have h2 := hn.mem_erase_iff.mp hk
      have := h k h2.2
      have := h2.1
      omega)
    have h2 : l.length ≤ (l.erase n).length + 1 := by
      rw [List.length_erase]
      split <;> omega
    omega

section
variable {M : Model} {A : Around} {E : Value → Shared → Prop} {s : Shared} {env : Env}
theorem x_nil {Q : Flow → Shared → Prop} (h : Q .next s) : wpAny M A (execs [] env) Q E s := wpAny_execs_nil h
theorem x_assign {x : Str} {pos' pos : Pos} {value : Expr} {rest : List Stmt} {Q : Flow → Shared → Prop}
    (h : wpAny M A (eval value env) (fun v s₁ => wpAny M A (storeName env x v) (fun _ s₂ => wpAny M A (execs rest env) Q E s₂) E s₁) E s)
    (hs : swapsWith value (some (.Name x pos')) pos.line env = pure false := by rfl) : wpAny M A (execs (.Assign [.Name x pos'] value pos :: rest) env) Q E s :=
  wpAny_execs_cons (wpAny_Assign_Name h hs)
theorem x_aug {x : Str} {pos' pos : Pos} {op : Operator} {value : Expr} {rest : List Stmt} {Q : Flow → Shared → Prop}
    (h : wpAny M A (loadName env x) (fun old s₁ => wpAny M A (eval value env) (fun v s₂ => wpAny M A (inplaceOp op old v)
      (fun r s₃ => wpAny M A (storeName env x r) (fun _ s₄ => wpAny M A (execs rest env) Q E s₄) E s₃) E s₂) E s₁) E s) :
    wpAny M A (execs (.AugAssign (.Name x pos') op value pos :: rest) env) Q E s := wpAny_execs_cons (wpAny_AugAssign_Name h)
theorem x_ret {e : Expr} {pos : Pos} {rest : List Stmt} {Q : Flow → Shared → Prop} (h : wpAny M A (eval e env) (fun v s' => Q (.ret v) s') E s) :
    wpAny M A (execs (.Return (some e) pos :: rest) env) Q E s := wpAny_execs_cons (wpAny_Return_some h)
theorem x_if {test : Expr} {body orelse rest : List Stmt} {pos : Pos} {Q : Flow → Shared → Prop}
    (h : wpAny M A (isTrue test env (eval test env)) (fun b s₂ =>
      if b = true then wpAny M A (execs body env) (fun f s' => match f with | .next => wpAny M A (execs rest env) Q E s' | f => Q f s') E s₂
      else wpAny M A (execs orelse env) (fun f s' => match f with | .next => wpAny M A (execs rest env) Q E s' | f => Q f s') E s₂) E s) :
    wpAny M A (execs (.If test body orelse pos :: rest) env) Q E s := wpAny_execs_cons (wpAny_If h)
theorem x_expr {e : Expr} {pos : Pos} {rest : List Stmt} {Q : Flow → Shared → Prop}
    (h : wpAny M A (eval e env) (fun v s' => v = .none ∧ wpAny M A (execs rest env) Q E s') E s)
    (hi : interactive env = false := by rfl) (hs : swapsWith e none pos.line env = pure false := by rfl) : wpAny M A (execs (.Expr e pos :: rest) env) Q E s :=
  wpAny_execs_cons (wpAny_Expr (wpAny_mono h (fun v s' h' => by obtain ⟨rfl, h'⟩ := h'; exact h') fun _ _ y => y) hi hs)
theorem x_brk {pos : Pos} {rest : List Stmt} {Q : Flow → Shared → Prop} (h : Q .brk s) : wpAny M A (execs (.Break pos :: rest) env) Q E s := wpAny_execs_cons (wpAny_Break h)
theorem x_cont {pos : Pos} {rest : List Stmt} {Q : Flow → Shared → Prop} (h : Q .cont s) : wpAny M A (execs (.Continue pos :: rest) env) Q E s := wpAny_execs_cons (wpAny_Continue h)

theorem e_list {elts : List Expr} {pos : Pos} {Q : Value → Shared → Prop}
    (h : wpAny M A (spliced (backTo pos (starEach elts env))) (fun vs s₁ => vs.length ≤ sizeLine ∧ ∀ a s', s₁.heap.get? a = none → Kp s₁ s' → s'.heap.PlainList a vs.toArray → Q (.ref a) s') E s) :
    wpAny M A (eval (.List elts pos) env) Q E s :=
  wpAny_List (wpAny_mono h (fun vs s₁ h₁ => ⟨h₁.1, h₁.2 _ _ (fresh_size _ (Nat.le_refl _)) (Kp.push _ _ _) ⟨_, Heap.get?_push_size _ rfl⟩⟩) fun _ _ y => y)
theorem e_tuple {elts : List Expr} {k : Nat} {pos : Pos} {Q : Value → Shared → Prop}
    (h : wpAny M A (spliced (backTo pos (starEach elts env))) (fun vs s₁ => vs.length ≤ sizeLine ∧ ∀ a s', s₁.heap.get? a = none → Kp s₁ s' → s'.heap.get? a = some { cls := .type "tuple", data := .seq vs.toArray } → Q (.ref a) s') E s) :
    wpAny M A (eval (.Tuple elts k pos) env) Q E s :=
  wpAny_Tuple (wpAny_mono h (fun vs s₁ h₁ => ⟨h₁.1, h₁.2 _ _ (fresh_size _ (Nat.le_refl _)) (Kp.push _ _ _) (Heap.get?_push_size _ rfl)⟩) fun _ _ y => y)
theorem i_nil {pos : Pos} {Q : List Value → Shared → Prop} (h : Q [] s) : wpAny M A (spliced (backTo pos (starEach [] env))) Q E s := wpAny_items_nil h
theorem i_cons {pos : Pos} {e : Expr} {rest : List Expr} {Q : List Value → Shared → Prop}
    (h : wpAny M A (eval e env) (fun v s₁ => wpAny M A (spliced (backTo pos (starEach rest env))) (fun vs s₂ => Q (v :: vs) s₂) E s₁) E s) (he : isStarred e = false := by kernel_rfl) :
    wpAny M A (spliced (backTo pos (starEach (e :: rest) env))) Q E s := wpAny_items_cons h (star_cons he)
theorem t_and {x y : Expr} {pos : Pos} {whole : Sem Value} {Q : Bool → Shared → Prop}
    (h : wpAny M A (isTrue x env (eval x env)) (fun b s₁ => if b = true then wpAny M A (isTrue y env (eval y env)) Q E s₁ else Q false s₁) E s) :
    wpAny M A (isTrue (.BoolOp .And [x, y] pos) env whole) Q E s := by
  refine wpAny_isTrue_BoolOp (wpAny_allTrue_And_cons (wpAny_mono h (fun b s₁ h₁ => ?_) fun _ _ z => z))
  cases b with
  | false => exact h₁
  | true =>
    refine wpAny_allTrue_And_cons (wpAny_mono h₁ (fun b s₁ h₁ => ?_) fun _ _ z => z)
    cases b with
    | false => exact h₁
    | true => exact wpAny_allTrue_And_nil h₁
theorem t_or {x y : Expr} {pos : Pos} {whole : Sem Value} {Q : Bool → Shared → Prop}
    (h : wpAny M A (isTrue x env (eval x env)) (fun b s₁ => if b = true then Q true s₁ else wpAny M A (isTrue y env (eval y env)) Q E s₁) E s) :
    wpAny M A (isTrue (.BoolOp .Or [x, y] pos) env whole) Q E s := by
  refine wpAny_isTrue_BoolOp (wpAny_allTrue_Or_cons (wpAny_mono h (fun b s₁ h₁ => ?_) fun _ _ z => z))
  cases b with
  | true => exact h₁
  | false =>
    refine wpAny_allTrue_Or_cons (wpAny_mono h₁ (fun b s₁ h₁ => ?_) fun _ _ z => z)
    cases b with
    | true => exact h₁
    | false => exact wpAny_allTrue_Or_nil h₁
theorem t_cmp {l r : Expr} {op : CmpOp} {pos : Pos} {whole : Sem Value} {Q : Bool → Shared → Prop}
    (h : wpAny M A (eval l env) (fun a s₁ => wpAny M A (eval r env) (fun b s₂ => wpAny M A (compareOp op a b) (fun c s₃ => wpAny M A (truthy c) Q E s₃) E s₂) E s₁) E s)
    (hm : behindInMarks op r = false := by with_unfolding_all rfl) : wpAny M A (isTrue (.Compare l [op] [r] pos) env whole) Q E s := wpAny_isTrue_Compare1 h hm
theorem tru_b {b : Bool} {Q : Bool → Shared → Prop} (h : Q b s) : wpAny M A (truthy (.bool b)) Q E s := wpAny_truthy_bool h
theorem ct_nil {cenv : Env} {Q : Bool → Shared → Prop} (h : Q true s) : wpAny M A (cTests [] cenv) Q E s := wpAny_pure h
theorem ct_one {cenv : Env} {c : Expr} {Q : Bool → Shared → Prop} (h : wpAny M A (isTrue c cenv (eval c cenv)) Q E s) : wpAny M A (cTests [c] cenv) Q E s := by
  unfold cTests
  simp only [List.forIn_cons, List.forIn_nil, if_true]
  exact wpAny_bind (wpAny_bind (wpAny_mono h (fun b s' hb => wpAny_pure (wpAny_pure hb)) fun _ _ x => x))
end

section
variable {prog : Program} {w : World} {A : Around} {E : Value → Shared → Prop} {s : Shared} {env : Env}
theorem x_while {test : Expr} {body rest : List Stmt} {pos : Pos} {Q : Flow → Shared → Prop} (I : Nat → Shared → Prop) (n : Nat) (h : I n s)
    (turn : ∀ E' n s, I n s → wpAny (model prog w) A (isTrue test env (eval test env)) (fun b s₂ =>
      if b = true then wpAny (model prog w) A (execs body env) (fun f s₃ => match f with
        | .next | .cont => ∃ m, m < n ∧ I m s₃
        | .brk => wpAny (model prog w) A (execs rest env) Q E s₃
        | .ret v => Q (.ret v) s₃) E' s₂
      else wpAny (model prog w) A (execs rest env) Q E s₂) E' s) :
    wpAny (model prog w) A (execs (.While test body [] pos :: rest) env) Q E s := by
  refine wpAny_execs_cons (wpAny_While (codeAny_whileLoop I (fun n s hI => wpAny_mono (turn _ n s hI) (fun b s₂ h₂ => ?_) fun _ _ y => y) n h))
  cases b with
  | true => exact h₂
  | false => exact wpAny_execs_nil h₂

theorem opqQ {M : Model} {α : Type} {t : Sem α} {Q₀ : α → Shared → Prop} (h : ∀ Q : α → Shared → Prop, (∀ v s', Q₀ v s' → Q v s') → wpAny M A t Q E s) : wpAny M A t Q₀ E s := h Q₀ fun _ _ x => x
theorem ite_t {b : Bool} {P Q : Prop} (hb : b = true) (h : P) : if b = true then P else Q := by rw [if_pos hb]; exact h
theorem ite_f {b : Bool} {P Q : Prop} (hb : b = false) (h : Q) : if b = true then P else Q := by rw [if_neg (by rw [hb]; decide)]; exact h
theorem Room.low {d u : Nat} (R : Room A d u) : A.depth < recursionLimit := Nat.lt_of_le_of_lt (Nat.le_add_right _ _) R.hd
theorem opqR {M : Model} {c : Code} {R₀ : Result → Shared → Prop} (h : ∀ R : Result → Shared → Prop, (∀ r s', R₀ r s' → R r s') → codeAny M A c R s) : codeAny M A c R₀ s := h R₀ fun _ _ x => x
theorem opqE {M : Model} {α : Type} {t : Sem α} {Q₀ : α → Shared → Prop} {E₀ : Value → Shared → Prop} (h : ∀ (Q : α → Shared → Prop) (E : Value → Shared → Prop), (∀ v s', Q₀ v s' → Q v s') → (∀ v s', E₀ v s' → E v s') → wpAny M A t Q E s) : wpAny M A t Q₀ E₀ s := h Q₀ E₀ (fun _ _ x => x) fun _ _ x => x
theorem x_whileK {test : Expr} {body rest : List Stmt} {pos : Pos} {Q : Flow → Shared → Prop} (I : Nat → Shared → Prop) (n : Nat) (h : I n s)
    (turn : ∀ E' n s (K : Flow → Shared → Prop), (∀ s₃, (∃ m, m < n ∧ I m s₃) → K .next s₃ ∧ K .cont s₃) → (∀ s₃, wpAny (model prog w) A (execs rest env) Q E s₃ → K .brk s₃) → (∀ v s₃, Q (.ret v) s₃ → K (.ret v) s₃) → I n s →
      wpAny (model prog w) A (isTrue test env (eval test env)) (fun b s₂ => if b = true then wpAny (model prog w) A (execs body env) K E' s₂ else wpAny (model prog w) A (execs rest env) Q E s₂) E' s) :
    wpAny (model prog w) A (execs (.While test body [] pos :: rest) env) Q E s :=
  x_while I n h fun E' n s hI => turn E' n s (fun f s₃ => match f with
        | .next | .cont => ∃ m, m < n ∧ I m s₃
        | .brk => wpAny (model prog w) A (execs rest env) Q E s₃
        | .ret v => Q (.ret v) s₃) (fun _ h => ⟨h, h⟩) (fun _ h => h) (fun _ _ h => h) hI
theorem add_i {a b : Int} {t u : Tok} {Q : Value → Shared → Prop} (h : ∀ t s', Kp s s' → Q (.int (a + b) t) s') : wpAny (model prog w) A (binaryOp .Add (.int a t) (.int b u)) Q E s := wpAny_add_int (h _ _ (Kp.tok _ _))
theorem iadd_i {a b : Int} {t u : Tok} {Q : Value → Shared → Prop} (h : ∀ t s', Kp s s' → Q (.int (a + b) t) s') : wpAny (model prog w) A (inplaceOp .Add (.int a t) (.int b u)) Q E s := wpAny_iadd_int (h _ _ (Kp.tok _ _))

theorem readsAll_ints {h : Heap} : ∀ {vs : List Value} {ns : List Int}, IntsAre vs ns → ReadsAll h vs (ns.map PyData.int) []
  | _, _, .nil => .nil
  | _, _, .cons n t r => by
    have := ReadsAll.cons (Reads.int n t) (readsAll_ints (h := h) r)
    simpa using this
theorem reads_ints {h : Heap} {a : Addr} {vs : List Value} {ns : List Int} (hl : h.IsList a vs.toArray) (hi : IntsAre vs ns) : Reads h (.ref a) (.list (ns.map PyData.int)) [a] := by
  obtain ⟨o, ho, hc, n, hd⟩ := hl
  exact Reads.list ho hc hd (by simpa using readsAll_ints hi)
theorem canLay_ints : ∀ ns : List Int, PyData.canLayAll0 (ns.map PyData.int) = true
  | [] => rfl
  | n :: r => by simp [PyData.canLayAll0, PyData.canLay0, canLay_ints r]
theorem depth_ints : ∀ ns : List Int, PyData.depthAll (ns.map PyData.int) ≤ 1
  | [] => by simp [PyData.depthAll]
  | n :: r => by have := depth_ints r; simp [PyData.depthAll, PyData.depth]; omega
theorem eqvAll_ints : ∀ ns ms : List Int, PyData.eqvAll (ns.map PyData.int) (ms.map PyData.int) = decide (ns = ms)
  | [], [] => by simp [PyData.eqvAll]
  | [], _ :: _ => by simp [PyData.eqvAll]
  | _ :: _, [] => by simp [PyData.eqvAll]
  | a :: r, b :: t => by
    simp only [List.map_cons, PyData.eqvAll, PyData.eqv, eqvAll_ints r t]
    by_cases h : a = b <;> by_cases h' : r = t <;> simp [h, h']
theorem ne_ints {a b : Addr} {vs us : List Value} {ns ms : List Int} {Q : Value → Shared → Prop} (ha : s.heap.IsList a vs.toArray) (ia : IntsAre vs ns) (hb : s.heap.IsList b us.toArray) (ib : IntsAre us ms) (hu : A.units + 3 < cLine)
    (h : Q (.bool (!decide (ns = ms))) s) : wpAny (model prog w) A (compareOp .NotEq (.ref a) (.ref b)) Q E s := by
  refine SeqAt.compareNe_reads (reads_ints ha ia) (reads_ints hb ib) (by simpa [PyData.canLay0] using canLay_ints ns) (by simpa [PyData.canLay0] using canLay_ints ms) ?_ (by simpa [PyData.eqv, eqvAll_ints] using h)
  have h1 := depth_ints ns
  have h2 := depth_ints ms
  simp only [PyData.depth]
  omega
theorem e_item {value slice : Expr} {pos : Pos} {Q : Value → Shared → Prop}
    (h : wpAny (model prog w) A (eval value env) (fun o s₁ => wpAny (model prog w) A (eval slice env) (fun i s₂ => ∃ a vs k t v, o = .ref a ∧ i = .int k t ∧ s₂.heap.IsList a vs ∧ 0 ≤ k ∧ k < 2 ^ 63 ∧ vs[k.toNat]? = some v ∧ Q v s₂) E s₁) E s)
    (hs : ∀ a k t, subscripted slice false (.ref a) (.int k t) = operate [.ref a, .int k t] (getItem (.ref a) (.int k t)) := by intro _ _ _; with_unfolding_all rfl) :
    wpAny (model prog w) A (eval (.Subscript value slice pos) env) Q E s := by
  refine Subscript_ (wpAny_mono h (fun o s₁ h₁ => wpAny_mono h₁ (fun i s₂ h₂ => ?_) fun _ _ y => y) fun _ _ y => y)
  obtain ⟨a, vs, k, t, v, rfl, rfl, hl, h0, hhi, hx, hq⟩ := h₂
  exact tail_any hl.typeIs slot_list_getitem.lookup (wpAny_getItem_list hl h0 hhi hx hq) (hs a k t)
theorem item_n {a : Addr} {vs : List Value} {i n : Nat} {t : Tok} {v : Value} {Q : Value → Shared → Prop} (hl : s.heap.IsList a vs.toArray) (hi : i < n) (hx : vs[i]? = some v) (hq : Q v s) (hn : (n : Int) ≤ 2 ^ 63 := by decide) :
    ∃ a' vs' k' t' v', Value.ref a = .ref a' ∧ Value.int (i : Int) t = .int k' t' ∧ s.heap.IsList a' vs' ∧ 0 ≤ k' ∧ k' < 2 ^ 63 ∧ vs'[k'.toNat]? = some v' ∧ Q v' s :=
  ⟨a, vs.toArray, (i : Int), t, v, rfl, rfl, hl, Int.natCast_nonneg i, Int.lt_of_lt_of_le (Int.ofNat_lt.mpr hi) hn, by rw [Int.toNat_natCast, List.getElem?_toArray]; exact hx, hq⟩
theorem item_z {a : Addr} {vs : List Value} {k : Int} {t : Tok} {v : Value} {Q : Value → Shared → Prop} (hl : s.heap.IsList a vs.toArray) (h0 : 0 ≤ k) (h1 : k < 2 ^ 63) (hx : vs[k.toNat]? = some v) (hq : Q v s) :
    ∃ a' vs' k' t' v', Value.ref a = .ref a' ∧ Value.int k t = .int k' t' ∧ s.heap.IsList a' vs' ∧ 0 ≤ k' ∧ k' < 2 ^ 63 ∧ vs'[k'.toNat]? = some v' ∧ Q v' s :=
  ⟨a, vs.toArray, k, t, v, rfl, rfl, hl, h0, h1, by rw [List.getElem?_toArray]; exact hx, hq⟩
end

theorem ints_get {vs : List Value} {ns : List Int} (h : IntsAre vs ns) {i : Nat} {v : Value} (e : vs[i]? = some v) : ∃ n t, ns[i]? = some n ∧ v = .int n t := by
  induction h generalizing i with
  | nil => simp at e
  | cons n t r ih =>
    cases i with
    | zero => simp at e; exact ⟨n, t, by simp, e.symm⟩
    | succ i => simpa using ih (by simpa using e)
theorem ints_snoc : ∀ {vs : List Value} {ns : List Int} {n : Int} {t : Tok}, IntsAre vs ns → IntsAre (vs ++ [.int n t]) (ns ++ [n])
  | _, _, n, t, .nil => .cons n t .nil
  | _, _, n, t, .cons m u r => .cons m u (ints_snoc r)
theorem plain_list {h : Heap} {a : Addr} {vs : Array Value} (x : h.PlainList a vs) : h.IsList a vs := let ⟨n, e⟩ := x; ⟨_, e, rfl, n, rfl⟩
end Mine
namespace Mine
section
variable {g : Heap} {L : Addr} {m : List (Str × Value)} {own own' : List (Addr × (Obj → Prop))} {s₀ s s' : Shared}
theorem St.sub (H : St g L m own s₀ s) (h : own'.Sublist own) : St g L m own' s₀ s := ⟨H.near, H.ns, H.keep, H.above, fun p hp => H.owns p (h.subset hp), H.apart.sublist h⟩
end
section
variable {prog : Program} {w : World} {A : Around} {E : Value → Shared → Prop} {s : Shared} {env : Env}
theorem e_range {n : Nat} {p pos pos' : Pos} {kk : Nat} {Q : Value → Shared → Prop} (B : Bs w s.heap) (hx : nsIn (Mine.hd.heap_39 w.params) mainGlobals (Str.ofString "range") = some none)
    (h : ∀ r s' t u v, Kp s s' → IsRange s'.heap r 0 (n : Int) 1 t u v → Q (.ref r) s')
    (hg : env.globals = mainGlobals := by kernel_rfl) (hb : env.builtins = builtinsNs := by kernel_rfl) (hk : env.scope.kind = .function := by kernel_rfl) (hkx : env.kindOf (Str.ofString "range") = some .globalImplicit := by kernel_rfl) :
    wpAny (model prog w) A (eval (.Call (.Name (Str.ofString "range") p) [.Constant (.int (n : Int)) kk pos'] [] pos) env) Q E s := by
  refine c_ty B hx boot_range (i_cons (k_int fun t s₁ k₁ => i_nil (call_range_1 ?_))) rfl rfl (by decide) hg hb hk hkx rfl
  exact h _ _ _ _ _ (k₁.trans (Kp.push _ _ _)) (IsRange.new _ _ _ _ _ _ _)
end
end Mine
namespace Mine
section
variable {M : Model} {A : Around} {E : Value → Shared → Prop} {s : Shared} {env : Env}
theorem cw0 {pos : Pos} {id : String} {first : List Value} {Q : Value → Shared → Prop} (h : wpAny M A (call (.builtin id) first) Q E s) :
    wpAny M A (callWith pos (.builtin id) first (backTo pos (starEach [] env)) []) Q E s := callWith_method0 h
theorem cw1 {pos : Pos} {id : String} {first : List Value} {e : Expr} {rest : List Expr} {Q : Value → Shared → Prop}
    (h : wpAny M A (spliced (backTo pos (starEach (e :: rest) env))) (fun vs s₁ => wpAny M A (call (.builtin id) (first ++ vs)) Q E s₁) E s)
    (he : isStarred e = false := by kernel_rfl) (hpl : rest.all (fun e => !isStarred e) = true := by kernel_rfl) :
    wpAny M A (callWith pos (.builtin id) first (backTo pos (starEach (e :: rest) env)) []) Q E s := callWith_method1 h (star_cons he) (star_any hpl)
theorem m_call {o : Expr} {name : Str} {apos pos : Pos} {args : List Expr} {Q : Value → Shared → Prop}
    (h : wpAny M A (eval o env) (fun ov s₁ => wpAny M A (getMethod ov name (do return (← importBound o env).getD true)) (fun fx s₂ => wpAny M A (callWith pos fx.1 fx.2 (backTo pos (starEach args env)) []) Q E s₂) E s₁) E s)
    (hb : ∀ whole, attributeBase o name env whole = whole := by intro _; kernel_rfl)
    (hst : args.all (fun e => !isStarred e) = true := by kernel_rfl) (hn : args.length < 30 := by decide) (hline : (apos.endLine == pos.line) = true := by kernel_rfl) :
    wpAny M A (eval (.Call (.Attribute o name apos) args [] pos) env) Q E s := by
  rw [arm_eval_Call, hb]
  have hf : methodCallForm (args.length + ([] : List Keyword).length) (backTo pos (starEach args env)) (backToKw pos (keywordEach [] env)) = true := by
    unfold methodCallForm
    have e1 : ((backTo pos (starEach args env)).all fun x => !x.1) = true := by
      unfold backTo
      rw [List.all_map]
      exact star_all hst
    simp only [e1, Bool.true_and]
    have e2 : backToKw pos (keywordEach [] env) = [] := rfl
    simp [e2, hn]
  refine wpAny_bind (wpAny_mono h (fun ov s₁ h₁ => wpAny_bind (wpAny_standAt ?_)) fun _ _ y => y)
  unfold methodCall
  rw [hf]
  simp only [calleeOf, if_true, methodCallPos, Bool.not_true, Bool.false_or, hline]
  refine wpAny_bind (wpAny_holding (wpAny_mono h₁ (fun fx s₂ h₂ => ?_) fun _ _ y => y))
  exact wpAny_bind (wpAny_pure h₂)
end
end Mine
namespace Mine
section
variable {prog : Program} {w : World} {A : Around} {E : Value → Shared → Prop} {s : Shared} {env : Env}
theorem add_s {x y : Str} {t u : Tok} {Q : Value → Shared → Prop} (hl : x.length + y.length ≤ 16777216) (h : ∀ t s', Kp s s' → Q (.str (x ++ y) t) s') : wpAny (model prog w) A (binaryOp .Add (.str x t) (.str y u)) Q E s :=
  PySem.W.KXadd.add (Nat.le_refl _) (Nat.le_refl _) hl fun t' k _ => h _ _ (Kp.tok _ _)
theorem e_bin {l r : Expr} {op : Operator} {pos : Pos} {Q : Value → Shared → Prop}
    (h : wpAny (model prog w) A (eval l env) (fun a s₁ => wpAny (model prog w) A (eval r env) (fun b s₂ => wpAny (model prog w) A (binaryOp op a b) Q E s₂) E s₁) E s) :
    wpAny (model prog w) A (eval (.BinOp l op r pos) env) Q E s := wpAny_BinOp h
end
end Mine
end

-- B6
section
open PySem PySem.W PyProof.Rows PySem.Calls
set_option Elab.async false
set_option linter.unusedVariables false
set_option linter.unusedSimpArgs false
namespace Mine

section
variable {g g' : Heap} {L : Addr} {m : List (Str × Value)} {own own' : List (Addr × (Obj → Prop))} {s₀ s s' : Shared}
theorem St.base (H : St g' L m own s₀ s) (k : ∀ b o, g.get? b = some o → g'.get? b = some o) : St g L m own s₀ s := by
  have no : ∀ b, g'.get? b = none → g.get? b = none := fun b e => by
    cases q : g.get? b with
    | none => rfl
    | some o => rw [k _ _ q] at e; cases e
  exact ⟨H.near, H.ns, fun b o e => H.keep b o (k b o e), no _ H.above, fun p hp => ⟨(H.owns p hp).1, (H.owns p hp).2.1, no _ (H.owns p hp).2.2⟩, H.apart⟩
theorem St.rebase (H : St g L m own s₀ s) : St (hideAll s.heap (L :: own.map (·.1))) L m own s₀ s ∧ (∀ b o, g.get? b = some o → (hideAll s.heap (L :: own.map (·.1))).get? b = some o) ∧
    (∀ b o, s.heap.get? b = some o → b ≠ L → (∀ p ∈ own, p.1 ≠ b) → (hideAll s.heap (L :: own.map (·.1))).get? b = some o) := by
  have k3 : ∀ b o, s.heap.get? b = some o → b ≠ L → (∀ p ∈ own, p.1 ≠ b) → (hideAll s.heap (L :: own.map (·.1))).get? b = some o := fun b o e h1 h2 => hideAll_get _ e fun q => by
    rcases List.mem_cons.mp q with q | q
    · exact h1 q
    · obtain ⟨p, hp, e⟩ := List.mem_map.mp q
      exact h2 p hp e
  refine ⟨⟨H.near, H.ns, fun b o e => of_hideAll _ e, hideAll_none _ (.head _), fun p hp => ⟨(H.owns p hp).1, (H.owns p hp).2.1, hideAll_none _ (.tail _ (List.mem_map_of_mem hp))⟩, H.apart⟩, fun b o e => ?_, k3⟩
  refine k3 b o (H.keep b o e) (fun q => ?_) fun p hp q => ?_
  · have := H.above; rw [← q, e] at this; cases this
  · have := (H.owns p hp).2.2; rw [q, e] at this; cases this
theorem St.but (H : St g L m own s₀ s) {h' : Heap} {tk : Nat} {wr : List Addr} (k : ∀ b o, b ∉ wr → s.heap.get? b = some o → h'.get? b = some o) (hL : L ∉ wr) (hg : ∀ b ∈ wr, g.get? b = none) (ho : ∀ p ∈ own, p.1 ∉ wr) :
    St g L m own s₀ { s with heap := h', toks := tk } := by
  refine ⟨?_, H.ns.at' fun o e => k _ o hL e, fun b o e => k b o (fun hb => by rw [hg b hb] at e; cases e) (H.keep b o e), H.above, fun p hp => ?_, H.apart⟩
  · obtain ⟨h, tk, rfl⟩ := H.near
    exact ⟨h', _, rfl⟩
  · obtain ⟨⟨o, ho', hp'⟩, r⟩ := H.owns p hp
    exact ⟨⟨o, k _ o (ho p hp) ho', hp'⟩, r⟩
end

noncomputable def SrcX (prog : Program) (w : World) (A : Around) (xs : List Addr) (n : Nat) (P : Nat → Value → Prop) (s₁ : Shared) (it : Value) (s₂ : Shared) : Prop :=
  ∃ I fp wr S, it = .ref I ∧ Walks prog w A I fp wr n P S ∧ S 0 s₂.heap ∧ Kp s₁ s₂ ∧ (∀ b ∈ wr, s₁.heap.get? b = none) ∧ (∀ b ∈ fp, s₁.heap.get? b = none ∨ b ∈ xs) ∧ ∀ i h, S i h → ∀ b ∈ fp, ∃ o, h.get? b = some o

theorem SrcX.mono {prog : Program} {w : World} {A : Around} {xs : List Addr} {n : Nat} {P P' : Nat → Value → Prop} {s₁ s₂ : Shared} {it : Value} (h : SrcX prog w A xs n P s₁ it s₂) (hp : ∀ i v, P i v → P' i v) : SrcX prog w A xs n P' s₁ it s₂ := by
  obtain ⟨I, fp, wr, S, e, W, r⟩ := h
  exact ⟨I, fp, wr, S, e, ⟨W.sub, W.frame, fun i s Q E hi hs hq => W.item i s Q E hi hs fun v h' tk hv => hq v h' tk (hp i v hv), W.done, W.self⟩, r⟩
section
variable {prog : Program} {w : World} {A : Around} {E : Value → Shared → Prop} {env : Env} {s : Shared}
theorem srcX_list (hh : A.handled = none) {a : Addr} {vs : List Value} (hl : s.heap.IsList a vs.toArray) {Q : Value → Shared → Prop}
    (h : ∀ it s₂, SrcX prog w A [a] vs.length (fun i v => vs[i]? = some v) s it s₂ → Q it s₂) : wpAny (model prog w) A (pyIter (.ref a)) Q E s := by
  refine wpAny_pyIter_list hl ?_
  obtain ⟨ol, hol, _⟩ := id hl
  have hne : a ≠ s.heap.objs.size := Nat.ne_of_lt (Heap.lt_size hol)
  have W := Walks.list (prog := prog) (w := w) hh s.heap.objs.size a hne vs.toArray
  rw [List.size_toArray] at W
  have e : (fun (i : Nat) (v : Value) => vs.toArray[i]? = some v) = fun i v => vs[i]? = some v := by funext i v; simp
  rw [e] at W
  refine h _ _ ⟨_, _, _, _, rfl, W, ⟨⟨_, Heap.get?_push_size _ rfl, rfl, rfl⟩, hl.at fun o e => Heap.get?_push_of_some _ e⟩, Kp.push _ _ _, fun b hb => ?_, fun b hb => ?_, fun i h st b hb => ?_⟩
  · rw [List.mem_singleton.mp hb]; exact fresh_size _ (Nat.le_refl _)
  · rcases List.mem_cons.mp hb with e | hb
    · rw [e]; exact .inl (fresh_size _ (Nat.le_refl _))
    · rw [List.mem_singleton.mp hb]; exact .inr (by simp)
  · rcases List.mem_cons.mp hb with e | hb
    · rw [e]; obtain ⟨o, ho, _⟩ := st.1; exact ⟨o, ho⟩
    · rw [List.mem_singleton.mp hb]; obtain ⟨o, ho, _⟩ := st.2; exact ⟨o, ho⟩
theorem srcX_range (hh : A.handled = none) {r : Addr} {n : Nat} {t u v : Tok} (hr : IsRange s.heap r 0 (n : Int) 1 t u v) (hn : n < 2 ^ 62) {Q : Value → Shared → Prop}
    (h : ∀ it s₂, SrcX prog w A [] n (fun i v => ∃ t, v = .int (i : Int) t) s it s₂ → Q it s₂) : wpAny (model prog w) A (pyIter (.ref r)) Q E s := by
  refine wpAny_pyIter_range hr (small_one (by decide) (by decide) (by omega) (by omega)) ?_
  have W := Walks.range (prog := prog) (w := w) hh s.heap.objs.size 0 1 n
  have e : (fun (i : Nat) (v : Value) => ∃ t, v = .int ((0 : Int) + i * 1) t) = fun i v => ∃ t, v = .int (i : Int) t := by funext i v; simp
  rw [e] at W
  have e2 : Builtin.Range.rangeSize 0 (n : Int) 1 = n := by rw [rangeSize_one]; split <;> omega
  refine h _ _ ⟨_, _, _, _, rfl, W, ?_, Kp.push _ _ _, fun b hb => ?_, fun b hb => ?_, fun i h st b hb => ?_⟩
  · rw [e2]
    have := Heap.get?_push_size (h := s.heap) (o := { cls := .type "range_iterator", data := .fields #[rawInt 0, rawInt n, rawInt 1] }) rfl
    simpa [IsRangeIter] using this
  · rw [List.mem_singleton.mp hb]; exact fresh_size _ (Nat.le_refl _)
  · rw [List.mem_singleton.mp hb]; exact .inl (fresh_size _ (Nat.le_refl _))
  · rw [List.mem_singleton.mp hb]; exact ⟨_, st⟩

theorem x_forG {g : Heap} {L : Addr} {m : List (Str × Value)} {own : List (Addr × (Obj → Prop))} {s₀ : Shared} {target iter : Expr} {body rest : List Stmt} {pos : Pos} {Q : Flow → Shared → Prop} {n : Nat} {P : Nat → Value → Prop}
    (Inv : Nat → List (Str × Value) → List (Addr × (Obj → Prop)) → Prop) (bm : List (Str × Value) → Value → List (Str × Value)) (bo : List (Addr × (Obj → Prop)) → Value → List (Addr × (Obj → Prop)))
    (H : St g L m own s₀ s)
    (h : wpAny (model prog w) A (eval iter env) (fun xv s₁ => Kp s s₁ ∧ wpAny (model prog w) A (pyIter xv) (fun it s₂ => ∃ xs, SrcX prog w A xs n P s₁ it s₂ ∧ (∀ a ∈ xs, a ≠ L ∧ ∀ p ∈ own, p.1 ≠ a)) E s₁) E s)
    (h0 : Inv 0 m own)
    (hbind : ∀ i v g' s m own Q E', Inv i m own → St g' L m own s₀ s → (∀ s', St g' L (bm m v) (bo own v) s₀ s' → Q () s') → wpAny (model prog w) A (assign target env v) Q E' s)
    (turn : ∀ i v m own g' s₃ E', i < n → P i v → Inv i m own → (∀ b o, g.get? b = some o → g'.get? b = some o) → St g' L (bm m v) (bo own v) s₀ s₃ →
      wpAny (model prog w) A (execs body env) (fun f s₄ => match f with
        | .next | .cont => ∃ m' own', St g' L m' own' s₀ s₄ ∧ Inv (i + 1) m' own'
        | .brk => False
        | .ret v => Q (.ret v) s₄) E' s₃)
    (fin : ∀ m own s', Inv n m own → St g L m own s₀ s' → wpAny (model prog w) A (execs rest env) Q E s')
    (ht : ∀ it v, letOwnedTupleGo target it v = pure () := by intro _ _; rfl) (hs : ∀ x, foldedSetIterable iter env x = pure x := by intro _; rfl) :
    wpAny (model prog w) A (execs (.For target iter body [] pos :: rest) env) Q E s := by
  refine wpAny_execs_cons (wpAny_For (wpAny_mono h (fun xv s₁ h₁ => wpAny_mono h₁.2 (fun it s₂ h₂ => ?_) fun _ _ y => y) fun _ _ y => y) hs)
  obtain ⟨xs, ⟨I, fp, wr, S, rfl, W, hst, k₁₂, hw, hfp, hex⟩, hxs⟩ := h₂
  have H₂ := (H.keeps h₁.1).keeps k₁₂
  have off : ∀ b ∈ fp, b ≠ L ∧ ∀ p ∈ own, p.1 ≠ b := fun b hb => by
    rcases hfp b hb with q | q
    · refine ⟨fun e => ?_, fun p hp e => ?_⟩
      · obtain ⟨o, _, _, ho, _⟩ := (H.keeps h₁.1).ns; rw [← e, q] at ho; cases ho
      · obtain ⟨⟨o, ho, _⟩, _⟩ := (H.keeps h₁.1).owns p hp; rw [e, q] at ho; cases ho
    · exact hxs b q
  have hgw : ∀ b ∈ wr, g.get? b = none := fun b hb => by
    cases q : g.get? b with
    | none => rfl
    | some o => have := (H.keeps h₁.1).keep _ _ q; rw [hw b hb] at this; cases this
  refine codeAny_forLoop_any (fun k s' => ∃ i m own, St g L m own s₀ s' ∧ Inv i m own ∧ S i s'.heap ∧ (∀ b ∈ fp, b ≠ L ∧ (∀ p ∈ own, p.1 ≠ b)) ∧ i ≤ n ∧ k = n + 1 - i) ?_ (n + 1)
    ⟨0, m, own, H₂, h0, hst, fun b hb => ⟨(off b hb).1, (off b hb).2⟩, Nat.zero_le _, rfl⟩
  rintro k s' ⟨i, m, own, H, hI, hS, hoff, hi, rfl⟩
  by_cases hlt : i < n
  · refine W.item i _ _ _ hlt hS fun v h₁ tk₁ hPv hS₁ hk₁ => ?_
    refine wpAny_of_eq (ht _ v) ?_
    have Hw : St g L m own s₀ { s' with heap := h₁, toks := tk₁ } := H.but hk₁ (fun q => (hoff _ (W.sub _ q)).1 rfl) hgw fun p hp q => (hoff _ (W.sub _ q)).2 p hp rfl
    obtain ⟨Hr, kg, k3⟩ := Hw.rebase
    have up : ∀ b ∈ fp, ∃ o, h₁.get? b = some o := hex _ _ hS₁
    refine hbind i v _ _ m own _ _ hI Hr fun s₃ H₃ => ?_
    refine wpAny_mono (turn i v m own _ s₃ _ hlt hPv hI kg H₃) (fun f s₄ h₄ => ?_) fun _ _ y => y
    have next : (∃ m' own', St (hideAll h₁ (L :: own.map (·.1))) L m' own' s₀ s₄ ∧ Inv (i + 1) m' own') → ∃ m_1, m_1 < n + 1 - i ∧ ∃ i m own, St g L m own s₀ s₄ ∧ Inv i m own ∧ S i s₄.heap ∧ (∀ b ∈ fp, b ≠ L ∧ (∀ p ∈ own, p.1 ≠ b)) ∧ i ≤ n ∧ m_1 = n + 1 - i := by
      rintro ⟨m', own', H₄, hI₄⟩
      have kf : ∀ b ∈ fp, ∀ o, h₁.get? b = some o → (hideAll h₁ (L :: own.map (·.1))).get? b = some o := fun b hb o e => k3 b o e (hoff b hb).1 (hoff b hb).2
      refine ⟨n + 1 - (i + 1), by omega, i + 1, m', own', H₄.base kg, hI₄, W.frame _ _ _ hS₁ fun b hb o e => H₄.keep b o (kf b hb o e), fun b hb => ?_, hlt, rfl⟩
      obtain ⟨o, ho⟩ := up b hb
      refine ⟨(hoff b hb).1, fun p hp q => ?_⟩
      have := (H₄.owns p hp).2.2
      rw [q, kf b hb o ho] at this; cases this
    cases f with
    | next => exact next h₄
    | cont => exact next h₄
    | brk => exact h₄.elim
    | ret v => exact h₄
  · have hin : i = n := by omega
    subst hin
    refine W.done _ _ _ hS fun h₁ tk₁ hk₁ => wpAny_execs_nil ?_
    exact fin m own _ hI (H.but hk₁ (fun q => (hoff _ (W.sub _ q)).1 rfl) hgw fun p hp q => (hoff _ (W.sub _ q)).2 p hp rfl)
theorem x_forGK {g : Heap} {L : Addr} {m : List (Str × Value)} {own : List (Addr × (Obj → Prop))} {s₀ : Shared} {target iter : Expr} {body rest : List Stmt} {pos : Pos} {Q : Flow → Shared → Prop} {n : Nat} {P : Nat → Value → Prop}
    (Inv : Nat → List (Str × Value) → List (Addr × (Obj → Prop)) → Prop) (bm : List (Str × Value) → Value → List (Str × Value)) (bo : List (Addr × (Obj → Prop)) → Value → List (Addr × (Obj → Prop)))
    (H : St g L m own s₀ s)
    (h : wpAny (model prog w) A (eval iter env) (fun xv s₁ => Kp s s₁ ∧ wpAny (model prog w) A (pyIter xv) (fun it s₂ => ∃ xs, SrcX prog w A xs n P s₁ it s₂ ∧ (∀ a ∈ xs, a ≠ L ∧ ∀ p ∈ own, p.1 ≠ a)) E s₁) E s)
    (h0 : Inv 0 m own)
    (hbind : ∀ i v g' s m own Q E', Inv i m own → St g' L m own s₀ s → (∀ s', St g' L (bm m v) (bo own v) s₀ s' → Q () s') → wpAny (model prog w) A (assign target env v) Q E' s)
    (turn : ∀ i v m own g' s₃ E' (K : Flow → Shared → Prop), (∀ m' own' s₄, St g' L m' own' s₀ s₄ → Inv (i + 1) m' own' → K .next s₄ ∧ K .cont s₄) → (∀ v s₄, Q (.ret v) s₄ → K (.ret v) s₄) → i < n → P i v → Inv i m own → (∀ b o, g.get? b = some o → g'.get? b = some o) → St g' L (bm m v) (bo own v) s₀ s₃ →
      wpAny (model prog w) A (execs body env) K E' s₃)
    (fin : ∀ m own s', Inv n m own → St g L m own s₀ s' → wpAny (model prog w) A (execs rest env) Q E s')
    (ht : ∀ it v, letOwnedTupleGo target it v = pure () := by intro _ _; rfl) (hs : ∀ x, foldedSetIterable iter env x = pure x := by intro _; rfl) :
    wpAny (model prog w) A (execs (.For target iter body [] pos :: rest) env) Q E s :=
  x_forG Inv bm bo H h h0 hbind (fun i v m own g' s₃ E' hi hP hI kg H₃ => turn i v m own g' s₃ E' (fun f s₄ => match f with
        | .next | .cont => ∃ m' own', St g' L m' own' s₀ s₄ ∧ Inv (i + 1) m' own'
        | .brk => False
        | .ret v => Q (.ret v) s₄) (fun m' own' _ h1 h2 => ⟨⟨m', own', h1, h2⟩, ⟨m', own', h1, h2⟩⟩) (fun _ _ h => h) hi hP hI kg H₃) fin ht hs
end
end Mine
namespace Mine
section
variable {g g' : Heap} {L : Addr} {m : List (Str × Value)} {own own' : List (Addr × (Obj → Prop))} {s₀ s s' : Shared}
theorem St.frz (H : St g L m own s₀ s) (k : Kp s s') {a : Addr} (hn : s.heap.get? a = none) :
    ∃ g', St g' L m own s₀ s' ∧ (∀ b o, g.get? b = some o → g'.get? b = some o) ∧ ∀ o, s'.heap.get? a = some o → g'.get? a = some o := by
  obtain ⟨H', kg, k3⟩ := (H.keeps k).rebase
  refine ⟨_, H', kg, fun o e => k3 a o e (fun q => ?_) fun p hp q => ?_⟩
  · obtain ⟨o, _, _, ho, _⟩ := H.ns; rw [← q, hn] at ho; cases ho
  · obtain ⟨⟨o, ho, _⟩, _⟩ := H.owns p hp; rw [q, hn] at ho; cases ho
theorem St.ice (H : St g L m ((a, P) :: own) s₀ s) : ∃ g', St g' L m own s₀ s ∧ (∀ b o, g.get? b = some o → g'.get? b = some o) ∧ ∃ o, g'.get? a = some o ∧ P o := by
  have H1 := H.sub (own' := own) (.cons _ (.refl _))
  obtain ⟨H', kg, k3⟩ := H1.rebase
  obtain ⟨⟨o, ho, hp⟩, h1, _⟩ := H.owns (a, P) (.head _)
  refine ⟨_, H', kg, o, k3 a o ho h1 fun p hp q => ?_, hp⟩
  exact (List.pairwise_cons.mp H.apart).1 p hp q.symm
theorem St.perm (H : St g L m own s₀ s) (h : own.Perm own') : St g L m own' s₀ s :=
  ⟨H.near, H.ns, H.keep, H.above, fun p hp => H.owns p (h.mem_iff.mpr hp), (h.pairwise_iff (fun hh q => hh q.symm)).mp H.apart⟩
end
end Mine
namespace Mine
theorem St.reb {g : Heap} {L : Addr} {m : List (Str × Value)} {own : List (Addr × (Obj → Prop))} {s₀ s : Shared} (H : St g L m own s₀ s) : ∃ g', St g' L m own s₀ s ∧ (∀ b o, g.get? b = some o → g'.get? b = some o) ∧
    (∀ b o, s.heap.get? b = some o → b ≠ L → (∀ p ∈ own, p.1 ≠ b) → g'.get? b = some o) := ⟨_, H.rebase⟩
end Mine
end

-- H1
section
open PySem PySem.W PyProof.Rows PySem.Calls
set_option Elab.async false
set_option linter.unusedVariables false
set_option linter.unusedSimpArgs false
namespace Mine

noncomputable def LLI (h : Heap) (a : Addr) (nss : List (List Int)) : Prop :=
  ∃ rs : List Addr, h.IsList a (rs.map Value.ref).toArray ∧ rs.length = nss.length ∧ ∀ (i : Nat) r ns, rs[i]? = some r → nss[i]? = some ns → ∃ vs, h.IsList r vs.toArray ∧ IntsAre vs ns
theorem LLI.keeps {h h' : Heap} {a : Addr} {nss : List (List Int)} (x : LLI h a nss) (k : ∀ b o, h.get? b = some o → h'.get? b = some o) : LLI h' a nss := by
  obtain ⟨rs, h1, h2, h3⟩ := x
  refine ⟨rs, h1.at fun o e => k _ o e, h2, fun i r ns e1 e2 => ?_⟩
  obtain ⟨vs, h4, h5⟩ := h3 i r ns e1 e2
  exact ⟨vs, h4.at fun o e => k _ o e, h5⟩

noncomputable def nd (nss : List (List Int)) (one n : Int) : Bool := (nss.getD one.toNat []).any (· == n)
noncomputable def stepF (nss : List (List Int)) (front : List Int) : List Int := ((List.range 5).map (fun (n : Nat) => (n : Int))).filter fun n => front.any fun one => nd nss one n
noncomputable def hl (nss : List (List Int)) : Nat → List Int → Int → Int
  | 0, _, st => st
  | k + 1, front, st => if front = [] then st else hl nss k (stepF nss front) (st + 1)

theorem range_take (i : Nat) (f : Int → Bool) : (((List.range (i + 1)).map (fun (n : Nat) => (n : Int))).filter f) = (((List.range i).map (fun (n : Nat) => (n : Int))).filter f) ++ (if f (i : Int) = true then [(i : Int)] else []) := by
  rw [List.range_succ, List.map_append, List.filter_append]
  congr 1
  simp only [List.map_cons, List.map_nil, List.filter_cons, List.filter_nil]
theorem stepF_ok (nss : List (List Int)) (front : List Int) : ∀ k ∈ stepF nss front, 0 ≤ k ∧ k < 5 := by
  intro k hk
  have := (List.mem_filter.mp hk).1
  obtain ⟨n, hn, rfl⟩ := List.mem_map.mp this
  have := List.mem_range.mp hn
  omega

set_option maxRecDepth 100000 in
set_option maxHeartbeats 4000000 in
set_option pp.deepTerms false in
set_option pp.maxSteps 2000 in
theorem height_spec {prog : Program} {w : World} {A : Around} {E : Value → Shared → Prop} {s : Shared} (Rm : Room A 3 20) (B : Bs w s.heap) {aN : Addr} {nss : List (List Int)} {k : Int} {t : Tok}
    (hN : LLI s.heap aN nss) (hlen : nss.length = 5) (hk0 : 0 ≤ k) (hk5 : k < 5) :
    wpAny (model prog w) A (call (.ref 202) [.ref aN, .int k t]) (fun r s' => Kp s s' ∧ ∃ t', r = .int (hl nss 6 [k] 0) t') E s := by
  have hz : (fun (_ : PySem.W.OpenLaw × (Params → Frag)) => True) (PySem.Challenge.rw_of0070_01, Mine.hd.heap_39) := by (k_fill; trivial)
  refine opqQ fun Q hQ => ?_
  refine wpAny_call (enterCR B Rm.low (by k_is) (by k_is) rfl ?_ ?_)
  · exact ⟨.inr ⟨rfl, rfl⟩, .inl rfl, trivial⟩
  · intro s' A1 DA H
    replace Rm := Rm.deep DA (d' := 2) (u' := 17) (by decide) (by decide)
    clear DA
    replace H : St s.heap s.heap.objs.size [(Str.ofString "k", .int k t)] [(s.heap.objs.size + 2, isC none), (s.heap.objs.size + 1, isC (some (.ref aN)))] s s' := H
    generalize s.heap.objs.size = L at H ⊢
    refine x_assign (e_list (i_cons (n_loc H.ns rfl (i_nil ⟨by size_fits, fun fa s1 hfa k1 hl1 => ?_⟩))))
    replace H := H.more k1 hfa (P := isL [.int k t]) (let ⟨n, e⟩ := hl1; ⟨_, e, n, rfl⟩)
    refine s_cell (i := 1) H rfl rfl fun s2 H => ?_
    refine x_assign (k_int fun t0 s3 k3 => s_loc (H.keeps k3) fun s4 H => ?_)
    refine x_whileK (fun n sx => ∃ m fa vs ns, ∃ (j : Nat), ∃ tj, St s.heap L m [(fa, isL vs), (L + 2, isC (some (.ref fa))), (L + 1, isC (some (.ref aN)))] s sx ∧ m.lookup (Str.ofString "steps") = some (.int j tj) ∧ IntsAre vs ns ∧ (∀ x ∈ ns, 0 ≤ x ∧ x < 5) ∧
        vs.length ≤ 5 ∧ j ≤ 6 ∧ n = 6 - j ∧ hl nss (6 - j) ns j = hl nss 6 [k] 0) 6
      ⟨_, fa, [.int k t], [k], 0, t0, H, rfl, .cons _ _ .nil, by simp [hk0, hk5], by simp, by omega, rfl, rfl⟩ ?_
    rintro E' n sx K1 kn1 kb1 kr1 ⟨m, fa, vs, ns, j, tj, H, hst, hints, hran, hvl, hj, rfl, heq⟩
    refine t_and (t_cmp (n_cell (c := L + 2) rfl (H.cell (i := 1) rfl) (e_list (i_nil ⟨by size_fits, fun ea s2 hea k2 hle => ?_⟩))))
    replace H := H.keeps k2
    refine ne_ints (plain_list (H.lst (i := 0) rfl)) hints (plain_list hle) .nil (by have := Rm.hu; omega) (tru_b ?_)
    by_cases hns : ns = []
    · subst hns
      simp only [decide_true, Bool.not_true, Bool.false_eq_true, if_false]
      have e6 : hl nss (6 - j) [] j = j := by cases h6 : 6 - j <;> simp [hl]
      rw [e6] at heq
      exact x_ret (n_loc H.ns hst (hQ _ _ ⟨H.done, tj, by rw [← heq]⟩))
    · simp only [hns, decide_false, Bool.not_false, if_true]
      refine t_cmp (n_loc H.ns hst (k_int fun t6 s3 k3 => lt_int (tru_b ?_)))
      replace H := H.keeps k3
      by_cases hj6 : (j : Int) < 6
      · simp only [hj6, decide_true, if_true]
        refine x_assign (lcC (n := 5) (P := fun i v => ∃ t, v = .int (i : Int) t) (fun i acc => IntsAre acc (((List.range i).map (fun (n : Nat) => (n : Int))).filter fun n => ns.any fun one => nd nss one n)) rfl
          (e_range (n := 5) (H.bs B) (by k_is) fun r s4 t1 u1 v1 k4 hr => src_range Rm.hh hr (by decide) fun it s5 hsrc => ⟨hsrc, ?_, ?_⟩) .nil)
        · intro C c i v acc s6 E6 hi hP hJ hc hk
          obtain ⟨tn, rfl⟩ := hP
          replace H := H.keeps k4
          have up : ∀ b o, s4.heap.get? b = some o → s6.heap.get? b = some o := fun b o e => hk b o (by simp) e
          refine ct_one (t_cmp (lc (n := vs.length) (P := fun i v => vs[i]? = some v) (fun q acc => IntsAre acc ((ns.take q).filter fun one => nd nss one i)) rfl
            (n_cell (c := L + 2) rfl ((H.cell (i := 1) rfl).keeps up) (src_list Rm.hh ((plain_list (H.lst (i := 0) rfl)).at fun o e => up _ o e) fun it s7 hsrc7 => ⟨hsrc7, ?_, ?_⟩)) .nil (by rw [sizeLine_eq]; omega)))
          · intro C4 m4 q v4 acc4 s8 E8 hq hP4 hJ4 hn4 hm4 hk4
            obtain ⟨one, tone, hone, rfl⟩ := ints_get hints hP4
            obtain ⟨h0, h5⟩ := hran one (List.mem_of_getElem? hone)
            have up4 : ∀ b o, s6.heap.get? b = some o → s8.heap.get? b = some o := fun b o e => hk4 b o (by simp) e
            have up8 : ∀ b o, s4.heap.get? b = some o → s8.heap.get? b = some o := fun b o e => up4 _ _ (up _ _ e)
            obtain ⟨rs, hrs, hrl, hrn⟩ := hN.keeps fun b o e => up8 b o (H.keep b o e)
            obtain ⟨r, hr⟩ : ∃ r, rs[one.toNat]? = some r := ⟨rs[one.toNat]'(by omega), by simp⟩
            obtain ⟨nsr, hnr⟩ : ∃ x, nss[one.toNat]? = some x := ⟨nss[one.toNat]'(by omega), by simp⟩
            obtain ⟨vr, hvr, hir⟩ := hrn _ _ _ hr hnr
            refine ct_one (t_cmp (n_cell (c := c) rfl (hc.keeps up4) (e_item (n_cell (c := L + 1) rfl ((H.cell (i := 2) rfl).keeps up8) (n_loc hn4 hm4 ⟨_, _, one, tone, _, rfl, rfl, hrs, h0, by omega, by simp [hr], in_list_ints hvr hir (tru_b ⟨Kp.same _, ?_⟩)⟩)))))
            have e1 : nsr.any (· == (i : Int)) = nd nss one i := by simp [nd, hnr]
            dsimp only
            rw [e1, List.take_add_one, hone]
            cases hb : nd nss one i with
            | false => simpa [hb] using hJ4
            | true =>
              simp only [if_true]
              refine n_loc hn4 hm4 ⟨Kp.same _, ?_⟩
              simpa [hb] using ints_snoc hJ4
          · intro D7 s7 ys7 hD7 k7 hl7 hJ7
            refine e_list (i_nil ⟨by size_fits, fun ea s8 hea k8 hle => ?_⟩)
            refine ne_ints ((plain_list hl7).at fun o e => k8.get _ o e) hJ7 (plain_list hle) .nil (by have := Rm.hu; omega) (tru_b ⟨k7.trans k8, ?_⟩)
            have e2 : (ns.take vs.length) = ns := by rw [hints.length]; simp
            have e3 : (!decide ((ns.filter fun one => nd nss one i) = [])) = ns.any fun one => nd nss one i := by
              cases hb : ns.any fun one => nd nss one i with
              | false => simpa [List.any_eq_false] using hb
              | true => simpa [List.any_eq_true] using hb
            dsimp only
            rw [e2, e3, range_take]
            cases hb : ns.any fun one => nd nss one i with
            | false => simpa [hb] using hJ
            | true =>
              simp only [if_true]
              refine n_cell (c := c) rfl ((hc.keeps k7.get).keeps k8.get) ⟨Kp.same _, ?_⟩
              exact ints_snoc hJ
        · intro D s6 ys hD k6 hl6 hJ
          replace H := (H.keeps k4).more k6 hD (P := isL ys) (let ⟨n, e⟩ := hl6; ⟨_, e, n, rfl⟩)
          refine s_cell (i := 2) H rfl rfl fun s7 H => ?_
          replace H := H.sub (own' := [(D, isL ys), (L + 2, isC (some (.ref D))), (L + 1, isC (some (.ref aN)))]) (.cons_cons _ (.cons _ (.refl _)))
          refine x_aug (wpAny_loadName_local rfl rfl H.ns hst (k_int fun t7 s8 k8 => iadd_i fun t8 s9 k9 => s_loc ((H.keeps k8).keeps k9) fun s10 H => x_nil ?_))
          refine (kn1 _ ⟨6 - (j + 1), by omega, _, D, ys, stepF nss ns, j + 1, t8, H, rfl, hJ, stepF_ok nss ns, ?_, by omega, rfl, ?_⟩).1
          · have h1 := hJ.length
            have h2 := List.length_filter_le (fun n => ns.any fun one => nd nss one n) ((List.range 5).map (fun (n : Nat) => (n : Int)))
            have h3 : ((List.range 5).map (fun (n : Nat) => (n : Int))).length = 5 := rfl
            omega
          · rw [← heq]
            have : 6 - j = (6 - (j + 1)) + 1 := (Nat.sub_add_cancel (Nat.sub_pos_of_lt (by omega))).symm
            rw [this, hl, if_neg hns]
            simp
      · simp only [hj6, decide_false, Bool.false_eq_true, if_false]
        have hj' : j = 6 := by omega
        subst hj'
        exact x_ret (n_loc H.ns hst (hQ _ _ ⟨H.done, tj, by rw [← heq]; rfl⟩))
end Mine
end

-- S1
section
open PySem PySem.W PyProof.Rows PySem.Calls
set_option Elab.async false
set_option linter.unusedVariables false
set_option linter.unusedSimpArgs false
namespace Mine

noncomputable def st (l : List Nat) : Str := ⟨l.toArray⟩
theorem st_len (l : List Nat) : (st l).length = l.length := by show l.toArray.size = _; simp
theorem st_append (a b : List Nat) : st a ++ st b = st (a ++ b) := by
  show (⟨a.toArray ++ b.toArray⟩ : Str) = ⟨(a ++ b).toArray⟩; simp
theorem st_nil : Str.ofString "" = st [] := rfl
theorem join_st : ∀ ls : List (List Nat), Txt.join (st []) (ls.map st) = st ls.flatten := by
  intro ls
  show Builtin.Str.glued _ _ = _
  rw [StrLaws.glued_eq_join]
  induction ls with
  | nil => rfl
  | cons x r ih =>
    cases r with
    | nil => simp [Str.join]
    | cons y r =>
      rw [List.map_cons, List.map_cons, Str.join]
      · rw [← List.map_cons, ih, st_append, st_append]; simp
      · simp

inductive Part where
  | lit (c : Nat)
  | ref (i : Nat)
noncomputable def PartIs (v : Value) : Part → Prop
  | .lit c => ∃ t, v = .str (st [c]) t
  | .ref i => ∃ t, v = .int (i : Int) t
inductive PartsAre : List Value → List Part → Prop
  | nil : PartsAre [] []
  | cons {v p vs ps} : PartIs v p → PartsAre vs ps → PartsAre (v :: vs) (p :: ps)
theorem parts_get {vs : List Value} {ps : List Part} (h : PartsAre vs ps) {i : Nat} {v : Value} (e : vs[i]? = some v) : ∃ p, ps[i]? = some p ∧ PartIs v p := by
  induction h generalizing i with
  | nil => simp at e
  | cons hp r ih =>
    cases i with
    | zero => simp at e; exact ⟨_, by simp, e ▸ hp⟩
    | succ i => simpa using ih (by simpa using e)
theorem parts_len {vs : List Value} {ps : List Part} (h : PartsAre vs ps) : vs.length = ps.length := by
  induction h with
  | nil => rfl
  | cons _ _ ih => simp [ih]

noncomputable def LTab (h : Heap) (a : Addr) (tb : List (List Part)) : Prop :=
  ∃ rs : List Addr, h.IsList a (rs.map Value.ref).toArray ∧ rs.length = tb.length ∧ ∀ (i : Nat) r ps, rs[i]? = some r → tb[i]? = some ps → ∃ vs, h.IsList r vs.toArray ∧ PartsAre vs ps
theorem LTab.keeps {h h' : Heap} {a : Addr} {nss : List (List Part)} (x : LTab h a nss) (k : ∀ b o, h.get? b = some o → h'.get? b = some o) : LTab h' a nss := by
  obtain ⟨rs, h1, h2, h3⟩ := x
  refine ⟨rs, h1.at fun o e => k _ o e, h2, fun i r ns e1 e2 => ?_⟩
  obtain ⟨vs, h4, h5⟩ := h3 i r ns e1 e2
  exact ⟨vs, h4.at fun o e => k _ o e, h5⟩
structure Tabs (h : Heap) (aS aT aH : Addr) (sg : List Nat) (tb : List (List Part)) (hs : List Int) : Prop where
  S : ∃ vs, h.IsList aS vs.toArray ∧ StrsAre vs (sg.map fun c => st [c])
  T : LTab h aT tb
  H : ∃ vs, h.IsList aH vs.toArray ∧ IntsAre vs hs
  lS : sg.length = 5
  lT : tb.length = 5
  lH : hs.length = 5
  three : ∀ (i : Nat) ps, tb[i]? = some ps → ps.length = 3
theorem Tabs.keeps {h h' : Heap} {aS aT aH : Addr} {sg : List Nat} {tb : List (List Part)} {hs : List Int} (x : Tabs h aS aT aH sg tb hs) (k : ∀ b o, h.get? b = some o → h'.get? b = some o) : Tabs h' aS aT aH sg tb hs :=
  ⟨let ⟨vs, a, b⟩ := x.S; ⟨vs, a.at fun o e => k _ o e, b⟩, x.T.keeps k, let ⟨vs, a, b⟩ := x.H; ⟨vs, a.at fun o e => k _ o e, b⟩, x.lS, x.lT, x.lH, x.three⟩

noncomputable def shw (sg : List Nat) (tb : List (List Part)) (hs : List Int) (r : Int) : Nat → Part → List Nat
  | _, .lit c => [c]
  | 0, .ref i => [sg.getD i 0]
  | f + 1, .ref i => if hs.getD i 0 ≤ r then [sg.getD i 0] else ((tb.getD i []).map (shw sg tb hs r f)).flatten
noncomputable def okP (tb : List (List Part)) (hs : List Int) (r : Int) : Nat → Part → Prop
  | _, .lit _ => True
  | 0, .ref i => i < 5 ∧ hs.getD i 0 ≤ r
  | f + 1, .ref i => i < 5 ∧ (hs.getD i 0 ≤ r ∨ ∀ q ∈ tb.getD i [], okP tb hs r f q)

theorem flat_len {α : Type} (l : List α) (g : α → List Nat) (n : Nat) (h : ∀ x ∈ l, (g x).length ≤ n) : ((l.map g).flatten).length ≤ l.length * n := by
  induction l with
  | nil => simp
  | cons x r ih =>
    have h1 := h x (by simp)
    have h2 := ih fun y hy => h y (by simp [hy])
    simp only [List.map_cons, List.flatten_cons, List.length_append, List.length_cons, Nat.add_mul, Nat.one_mul]
    omega
theorem shw_len {sg : List Nat} {tb : List (List Part)} {hs : List Int} {r : Int} (h3 : ∀ (i : Nat) ps, tb[i]? = some ps → ps.length = 3) : ∀ f p, (shw sg tb hs r f p).length ≤ 3 ^ f
  | _, .lit c => by simp [shw]; exact Nat.one_le_pow _ _ (by decide)
  | 0, .ref i => by simp [shw]
  | f + 1, .ref i => by
    rw [shw]
    split
    · simp; exact Nat.one_le_pow _ _ (by decide)
    · have := flat_len (tb.getD i []) (shw sg tb hs r f) (3 ^ f) fun q _ => shw_len h3 f q
      have h : (tb.getD i []).length ≤ 3 := by
        rw [List.getD_eq_getElem?_getD]
        cases e : tb[i]? with
        | none => simp
        | some ps => simp [h3 i ps e]
      have h9 : (tb.getD i []).length * 3 ^ f ≤ 3 * 3 ^ f := Nat.mul_le_mul_right _ h
      rw [Nat.pow_succ]
      omega

theorem strs_get {vs : List Value} {ys : List Str} (h : StrsAre vs ys) {i : Nat} {y : Str} (e : ys[i]? = some y) : ∃ t, vs[i]? = some (.str y t) := by
  induction h generalizing i with
  | nil => simp at e
  | cons z t r ih =>
    cases i with
    | zero => simp at e; exact ⟨t, by simp [e]⟩
    | succ i => simpa using ih (by simpa using e)
theorem ints_at {vs : List Value} {ns : List Int} (h : IntsAre vs ns) {i : Nat} {n : Int} (e : ns[i]? = some n) : ∃ t, vs[i]? = some (.int n t) := by
  induction h generalizing i with
  | nil => simp at e
  | cons z t r ih =>
    cases i with
    | zero => simp at e; exact ⟨t, by simp [e]⟩
    | succ i => simpa using ih (by simpa using e)
theorem strs_snoc : ∀ {vs : List Value} {ys : List Str} {y : Str} {t : Tok}, StrsAre vs ys → StrsAre (vs ++ [.str y t]) (ys ++ [y])
  | _, _, y, t, .nil => .cons y t .nil
  | _, _, y, t, .cons m u r => .cons m u (strs_snoc r)

theorem sum_le (l : List Str) (n : Nat) (h : ∀ x ∈ l, x.length ≤ n) : (l.map (·.length)).sum ≤ l.length * n := by
  induction l with
  | nil => simp
  | cons x r ih =>
    have h1 := h x (by simp)
    have h2 := ih fun y hy => h y (by simp [hy])
    simp only [List.map_cons, List.sum_cons, List.length_cons, Nat.add_mul, Nat.one_mul]
    omega
noncomputable def ShownSpec (prog : Program) (w : World) (aS aT aH : Addr) (sg : List Nat) (tb : List (List Part)) (hs : List Int) (r : Int) (f : Nat) : Prop :=
  ∀ (A : Around) (E : Value → Shared → Prop) (s : Shared) (p : Part) (v : Value) (tr : Tok), Room A (f + 2) (8 * f + 20) → Bs w s.heap → Tabs s.heap aS aT aH sg tb hs → okP tb hs r f p → PartIs v p →
    wpAny (model prog w) A (call (.ref 207) [.ref aS, .ref aT, .ref aH, v, .int r tr]) (fun x s' => Kp s s' ∧ ∃ t', x = .str (st (shw sg tb hs r f p)) t') E s

set_option maxRecDepth 100000 in
set_option maxHeartbeats 4000000 in
set_option pp.deepTerms false in
set_option pp.maxSteps 1000 in


theorem shown_step {prog : Program} {w : World} {aS aT aH : Addr} {sg : List Nat} {tb : List (List Part)} {hs : List Int} {r : Int} (f : Nat) (hf : f ≤ 6) (ih : ∀ f', f = f' + 1 → ShownSpec prog w aS aT aH sg tb hs r f') :
    ShownSpec prog w aS aT aH sg tb hs r f := by
  intro A E s p v tr Rm B Tb hok hv
  have hz : (fun (_ : PySem.W.OpenLaw × (Params → Frag)) => True) (PySem.Challenge.rw_of0070_01, Mine.hd.heap_39) := by (k_fill; trivial)
  refine wpAny_call (enterCR B Rm.low (by k_is) (by k_is) rfl ?_ ?_)
  · exact ⟨.inr ⟨rfl, rfl⟩, .inr ⟨rfl, rfl⟩, .inr ⟨rfl, rfl⟩, .inl rfl, .inr ⟨rfl, rfl⟩, trivial⟩
  intro s' A1 DA H
  replace Rm := Rm.deep DA (d' := f + 1) (u' := 8 * f + 17) (by omega) (by omega)
  clear DA
  replace H : St s.heap s.heap.objs.size [(Str.ofString "part", v)] [(s.heap.objs.size + 4, isC (some (.int r tr))), (s.heap.objs.size + 3, isC (some (.ref aH))), (s.heap.objs.size + 2, isC (some (.ref aT))), (s.heap.objs.size + 1, isC (some (.ref aS)))] s s' := H
  generalize s.heap.objs.size = L at H ⊢
  refine x_if (wpAny_isTrue_value (c_bi (H.bs B) (by k_is) boot_isinstance (i_cons (n_loc H.ns rfl (i_cons (n_built (H.bs B) (by k_is) boot_str (i_nil ?_)))))) rfl)
  cases p with
  | lit c =>
    obtain ⟨t, rfl⟩ := hv
    refine IsiPair.str_str (tru_b ?_)
    simp only [if_true]
    refine x_ret (n_loc H.ns rfl ⟨H.done, t, ?_⟩)
    cases f <;> rfl
  | ref i =>
    obtain ⟨t, rfl⟩ := hv
    refine IsiPair.int_str (tru_b ?_)
    simp only [Bool.false_eq_true, if_false]
    replace H := H.keeps (Kp.tok _ (s'.toks + 1))
    generalize ({ s' with toks := s'.toks + 1 } : Shared) = s1 at H ⊢
    refine x_nil ?_
    dsimp only
    have hi : i < 5 := by cases f <;> exact hok.1
    have T1 := Tb.keeps H.keep
    obtain ⟨vh, hvh, ivh⟩ := T1.H
    obtain ⟨th, eh⟩ := ints_at ivh (i := i) (n := hs.getD i 0) (by rw [List.getD_eq_getElem?_getD]; simp [T1.lH, hi])
    obtain ⟨vs, hvs, ivs⟩ := T1.S
    obtain ⟨ts, es⟩ := strs_get ivs (i := i) (y := st [sg.getD i 0]) (by rw [List.getD_eq_getElem?_getD]; simp [T1.lS, hi])
    refine x_if (t_cmp (e_item (n_cell (c := L + 3) rfl (H.cell (i := 1) rfl) (n_loc H.ns rfl (item_n (v := .int (hs.getD i 0) th) hvh hi eh (n_cell (c := L + 4) rfl (H.cell (i := 0) rfl) (le_int (tru_b ?_))))))))
    by_cases hle : hs.getD i 0 ≤ r
    · simp only [hle, decide_true, if_true]
      refine x_ret (e_item (n_cell (c := L + 1) rfl (H.cell (i := 3) rfl) (n_loc H.ns rfl ⟨_, _, _, _, .str (st [sg.getD i 0]) ts, rfl, rfl, hvs, Int.natCast_nonneg i, by omega, by rw [List.getElem?_toArray, Int.toNat_natCast]; exact es, ⟨H.done, ts, ?_⟩⟩)))
      cases f with
      | zero => rfl
      | succ f => rw [shw, if_pos hle]
    · simp only [hle, decide_false, Bool.false_eq_true, if_false]
      refine x_nil ?_
      dsimp only
      cases f with
      | zero => exact (hle hok.2).elim
      | succ f =>
        have ih' := ih f rfl
        have hall := hok.2.resolve_left hle
        obtain ⟨rs, hrs, hrl, hrp⟩ := T1.T
        obtain ⟨ra, era⟩ : ∃ x, rs[i]? = some x := ⟨rs[i]'(by rw [hrl, T1.lT]; exact hi), by simp⟩
        obtain ⟨ps, eps⟩ : ∃ x, tb[i]? = some x := ⟨tb[i]'(by rw [T1.lT]; exact hi), by simp⟩
        obtain ⟨vp, hvp, ivp⟩ := hrp _ _ _ era eps
        have ep : tb.getD i [] = ps := by rw [List.getD_eq_getElem?_getD, eps]; rfl
        have hl3 := T1.three _ _ eps
        refine x_ret ?_
        refine m_call ?_
        refine k_str ?_
        intro t0 s2 k2
        with_reducible refine GM.join ?_
        refine cw1 ?_
        refine i_cons ?_
        replace H := H.keeps k2
        refine lc (n := vp.length) (P := fun i v => vp[i]? = some v) (fun q acc => StrsAre acc ((ps.take q).map fun p => st (shw sg tb hs r f p))) rfl
          (e_item (n_cell (c := L + 2) rfl (H.cell (i := 2) rfl) (n_loc H.ns rfl ⟨_, _, _, _, _, rfl, rfl, hrs.at fun o e => k2.get _ o e, by omega, by omega, by simp [era],
            src_list Rm.hh (hvp.at fun o e => k2.get _ o e) ?_⟩))) .nil (by rw [sizeLine_eq, parts_len ivp, hl3]; decide)
        intro it s3 hsrc
        refine ⟨hsrc, ?_, ?_⟩
        · intro C m q v acc s4 E4 hq hP hJ hn hm hk
          have up : ∀ b o, s2.heap.get? b = some o → s4.heap.get? b = some o := fun b o e => hk b o (by simp) e
          obtain ⟨p, hp, ip⟩ := parts_get ivp hP
          have B4 : Bs w s4.heap := (H.bs B).keeps up
          refine ct_nil ⟨Kp.same _, ?_⟩
          simp only [if_true]
          refine c_fn B4 (by k_is) (by k_is) (i_cons ?_)
          refine n_cell (c := L + 1) (by kernel_rfl) ((H.cell (i := 3) rfl).keeps up) (i_cons ?_)
          refine n_cell (c := L + 2) (by kernel_rfl) ((H.cell (i := 2) rfl).keeps up) (i_cons ?_)
          refine n_cell (c := L + 3) (by kernel_rfl) ((H.cell (i := 1) rfl).keeps up) (i_cons ?_)
          refine n_loc hn hm (i_cons ?_)
          refine n_cell (c := L + 4) (by kernel_rfl) ((H.cell (i := 0) rfl).keeps up) (i_nil ⟨B4, ?_⟩)
          refine wpAny_mono (ih' _ _ _ p v tr (Rm.le (by omega) (by omega)) B4 (Tb.keeps fun b o e => up b o (H.keep b o e)) (hall p (by rw [ep]; exact List.mem_of_getElem? hp)) ip) (fun x s5 h5 => ⟨h5.1, ?_⟩) fun _ _ y => y
          obtain ⟨t', rfl⟩ := h5.2
          rw [List.take_add_one, hp]
          simpa using strs_snoc hJ
        · intro D s3 ys hD k3 hl3' hJ
          refine i_nil (join_list (ys := ps.map (fun p => st (shw sg tb hs r f p))) (plain_list hl3') ?_ ?_ fun t' k => ⟨?_, t', ?_⟩)
          · have : ps.take vp.length = ps := by rw [parts_len ivp]; simp
            rw [this] at hJ
            simpa using hJ
          · have h1 : ∀ x ∈ ps.map (fun p => st (shw sg tb hs r f p)), x.length ≤ 729 := by
              intro x hx
              obtain ⟨p, _, rfl⟩ := List.mem_map.mp hx
              rw [st_len]
              exact Nat.le_trans (shw_len T1.three f p) (Nat.le_trans (Nat.pow_le_pow_right (by decide) (show f ≤ 6 by omega)) (by decide))
            have h2 := sum_le _ 729 h1
            have h3 : (Str.ofString "").length = 0 := rfl
            rw [h3]
            simp only [List.length_map, hl3] at h2 ⊢
            omega
          · exact (H.keeps k3).done.trans (Kp.tok _ _)
          · rw [shw, if_neg hle, ep, ← join_st, List.map_map]
            rfl
theorem shown_spec {prog : Program} {w : World} {aS aT aH : Addr} {sg : List Nat} {tb : List (List Part)} {hs : List Int} {r : Int} : ∀ f, f ≤ 6 → ShownSpec prog w aS aT aH sg tb hs r f
  | 0, h => shown_step 0 h fun _ e => nomatch e
  | f + 1, h => shown_step (f + 1) h (fun f' e => (Nat.succ.inj e) ▸ shown_spec f (by omega))
end Mine
end

-- B7
section
open PySem PySem.W PyProof.Rows PySem.Calls
set_option Elab.async false
set_option linter.unusedVariables false
set_option linter.unusedSimpArgs false
namespace Mine
section
variable {prog : Program} {w : World} {A : Around} {E : Value → Shared → Prop} {s : Shared} {env : Env}
theorem fdiv_i {a b : Int} {t u : Tok} {Q : Value → Shared → Prop} (hb : b ≠ 0) (hs : b.natAbs < 1073741824) (h : ∀ t s', Kp s s' → Q (.int (a.fdiv b) t) s') : wpAny (model prog w) A (binaryOp .FloorDiv (.int a t) (.int b u)) Q E s :=
  AutoIntOps.floordiv_1 (by simpa using hb) (by rw [PyProof.noPylong_small hs]; exact Bool.false_ne_true) (h _ _ (Kp.tok _ _))
theorem fmod_i {a b : Int} {t u : Tok} {Q : Value → Shared → Prop} (hb : b ≠ 0) (h : ∀ t s', Kp s s' → Q (.int (a.fmod b) t) s') : wpAny (model prog w) A (binaryOp .Mod (.int a t) (.int b u)) Q E s :=
  AutoIntOps.mod_1 (by simpa using hb) (h _ _ (Kp.tok _ _))
theorem chr_i {i : Int} {t : Tok} {Q : Value → Shared → Prop} (h0 : 0 ≤ i) (h1 : i ≤ 0x10FFFF) (h : ∀ t s', Kp s s' → Q (.str (st [i.toNat]) t) s') : wpAny (model prog w) A (call (.builtin "chr") [.int i t]) Q E s :=
  P.chr_of_int (by simp; omega) (h _ _ (Kp.tok _ _))
theorem ord_c {c : Nat} {t : Tok} {Q : Value → Shared → Prop} (h : ∀ t s', Kp s s' → Q (.int c t) s') : wpAny (model prog w) A (call (.builtin "ord") [.str (st [c]) t]) Q E s :=
  P.ord_of_char (h _ _ (Kp.tok _ _))
theorem len_l {a : Addr} {vs : List Value} {Q : Value → Shared → Prop} (hl : s.heap.IsList a vs.toArray) (hz : vs.length < 2 ^ 62) (h : ∀ t s', Kp s s' → Q (.int vs.length t) s') : wpAny (model prog w) A (call (.builtin "len") [.ref a]) Q E s :=
  call_len_list hl (by simp only [List.size_toArray]; omega) (by simpa using h _ _ (Kp.tok _ _))
theorem gm_list {a : Addr} {vs : Array Value} {name : Str} {id : String} {pl : Sem Bool} {Q : Value × List Value → Shared → Prop} (slot : Slot "list" name id) (hty : typeOf (.builtin id) = pure (.type "method_descriptor")) (hl : s.heap.PlainList a vs)
    (h : Q (.builtin id, [.ref a]) s) : wpAny (model prog w) A (getMethod (.ref a) name pl) Q E s :=
  getMethod_list_of slot hty (plain_list hl) (let ⟨n, e⟩ := hl; ⟨_, e, rfl⟩) h
theorem app_own {g : Heap} {L : Addr} {m : List (Str × Value)} {own : List (Addr × (Obj → Prop))} {s₀ : Shared} {a : Addr} {vs : List Value} {x : Value} {i : Nat} {Q : Value → Shared → Prop} (H : St g L m own s₀ s) (hi : own[i]? = some (a, isL vs)) (hz : vs.length ≤ sizeLine)
    (h : ∀ s', St g L m (own.set i (a, isL (vs ++ [x]))) s₀ s' → Q .none s') : wpAny (model prog w) A (call (.builtin "list.append") [.ref a, x]) Q E s := by
  refine wpAny_list_append_plain (hsz := by simpa using hz) (H.lst hi) fun h' hl' hs' => ?_
  have : ({ s with heap := h' } : Shared) = { s with heap := h', toks := s.toks } := rfl
  rw [this]
  refine h _ (H.set hi hs' ?_)
  obtain ⟨n, e⟩ := hl'
  exact ⟨_, e, n, by simp⟩
theorem add_l {a b : Addr} {vs us : List Value} {Q : Value → Shared → Prop} (ha : s.heap.PlainList a vs.toArray) (hb : s.heap.PlainList b us.toArray) (hz : vs.length + us.length ≤ sizeLine)
    (h : ∀ D s', s.heap.get? D = none → Kp s s' → s'.heap.PlainList D (vs ++ us).toArray → Q (.ref D) s') : wpAny (model prog w) A (binaryOp .Add (.ref a) (.ref b)) Q E s := by
  obtain ⟨n, ea⟩ := ha
  obtain ⟨n', eb⟩ := hb
  refine P.add_list (n := n) (n2 := n') ea eb ?_ (by simpa using hz)
  refine h _ _ (fresh_size _ (Nat.le_refl _)) (Kp.push _ _ _) ⟨0, ?_⟩
  have := Heap.get?_push_size (h := s.heap) (o := { cls := .type "list", data := .seq (vs.toArray ++ us.toArray) }) rfl
  simpa using this
theorem e_ite {test body orelse : Expr} {pos : Pos} {Q : Value → Shared → Prop}
    (h : wpAny (model prog w) A (isTrue test env (eval test env)) (fun b s₁ => if b = true then wpAny (model prog w) A (eval body env) Q E s₁ else wpAny (model prog w) A (eval orelse env) Q E s₁) E s) :
    wpAny (model prog w) A (eval (.IfExp test body orelse pos) env) Q E s := wpAny_IfExp h
theorem e_cmp {l r : Expr} {op : CmpOp} {pos : Pos} {Q : Value → Shared → Prop}
    (h : wpAny (model prog w) A (eval l env) (fun a s₁ => wpAny (model prog w) A (eval r env) (fun b s₂ => wpAny (model prog w) A (compareOp op a b) Q E s₂) E s₁) E s)
    (hm : behindInMarks op r = false := by with_unfolding_all rfl) : wpAny (model prog w) A (eval (.Compare l [op] [r] pos) env) Q E s := wpAny_Compare1 h hm
end
end Mine
namespace Mine
section
variable {prog : Program} {w : World} {A : Around} {E : Value → Shared → Prop} {s : Shared} {env : Env}
theorem e_step {value lo st : Expr} {p pos : Pos} {Q : Value → Shared → Prop}
    (h : wpAny (model prog w) A (eval value env) (fun o s₁ => wpAny (model prog w) A (eval lo env) (fun l s₂ => wpAny (model prog w) A (eval st env) (fun d s₃ =>
      ∃ a vs ns j t k u, o = .ref a ∧ l = .int j t ∧ d = .int k u ∧ k ≠ 0 ∧ s₃.heap.IsList a vs.toArray ∧ IntsAre vs ns ∧ vs.length ≤ sizeLine ∧
        ∀ D s' us ms, Kp s₃ s' → s'.heap.IsList D us.toArray → IntsAre us ms → Q (.ref D) s') E s₂) E s₁) E s)
    (ht : ∀ o r, letTemporaryGo value o r = pure () := by intro _ _; rfl) :
    wpAny (model prog w) A (eval (.Subscript value (.Slice (some lo) none (some st) p) pos) env) Q E s := by
  refine wpAny_Subscript_Slice_step slot_list_getitem.lookup (wpAny_mono h (fun o s₁ h₁ => wpAny_Slice (wpAny_mono h₁ (fun l s₂ h₂ => wpAny_pure (wpAny_mono h₂ (fun d s₃ h₃ => ?_) fun _ _ y => y)) fun _ _ y => y)) fun _ _ y => y) ht
  obtain ⟨a, vs, ns, j, t, k, u, rfl, rfl, rfl, hk, hl, hi, hz, hq⟩ := h₃
  have hl' := hl.push { cls := .type "slice", data := .fields #[.int j t, .none, .int k u] }
  refine ⟨hl'.typeIs, wpAny_getItem_list_slice (lo := some j) (hi := none) (st := some k) hl' (Heap.IsSliceOf.new ..) (.int _ _) .none (.int _ _) (fun e => hk (Option.some.inj e)) ?_ (by simpa using hz)⟩
  have all : ∀ v ∈ (slicePick vs.toArray (some j) none (some k)).toList, ∃ n t, v = Value.int n t := by
    intro v hv
    unfold slicePick at hv
    simp only [List.mem_filterMap] at hv
    obtain ⟨i, _, e⟩ := hv
    simp only [List.getElem?_toArray] at e
    obtain ⟨n, t, _, rfl⟩ := ints_get hi e
    exact ⟨n, t, rfl⟩
  have ex : ∀ l : List Value, (∀ v ∈ l, ∃ n t, v = Value.int n t) → ∃ ms, IntsAre l ms := by
    intro l
    induction l with
    | nil => exact fun _ => ⟨[], .nil⟩
    | cons v r ih =>
      intro hv
      obtain ⟨n, t, rfl⟩ := hv v (by simp)
      obtain ⟨ms, hms⟩ := ih fun u hu => hv u (by simp [hu])
      exact ⟨n :: ms, .cons n t hms⟩
  obtain ⟨ms, hms⟩ := ex _ all
  refine hq _ _ (slicePick vs.toArray (some j) none (some k)).toList ms ?_ ?_ hms
  · exact (Kp.push s₃ _ s₃.toks).trans (Kp.push _ _ s₃.toks)
  · exact ⟨_, Heap.get?_push_size _ rfl, rfl, 0, by simp⟩
theorem sum_ints (hh : A.handled = none) {a : Addr} {vs : List Value} {ns : List Int} {Q : Value → Shared → Prop} (hl : s.heap.IsList a vs.toArray) (hi : IntsAre vs ns) (h : ∀ n t s', Kp s s' → Q (.int n t) s') :
    wpAny (model prog w) A (call (.builtin "sum") [.ref a]) Q E s := by
  refine call_sum_walkG (src_list (A := A.in1) hh hl fun it s₂ hs => ?_)
  obtain ⟨I, fp, wr, S, rfl, W, hst, hfp, k, hw⟩ := hs
  refine ⟨I, fp, wr, _, _, S, fun i => ns.getD i 0, rfl, W, hst, hfp, fun i v e => ?_, fun h' tk t' hk => ?_⟩
  · obtain ⟨n, t, e1, rfl⟩ := ints_get hi e
    exact ⟨t, by simp [e1]⟩
  · obtain ⟨h2, t2, rfl⟩ := k.near
    exact h _ _ _ ⟨⟨h', tk, rfl⟩, fun b o e => hk b o (fun hb => by rw [hw b hb] at e; cases e) (k.get b o e)⟩
end
end Mine
end

-- B8
section
open PySem PySem.W PyProof.Rows PySem.Calls
set_option Elab.async false
set_option linter.unusedVariables false
set_option linter.unusedSimpArgs false
namespace Mine
noncomputable def low (c : Nat) : Nat := if 65 ≤ c ∧ c ≤ 90 then c + 32 else c
theorem lower_st : ∀ c < 128, Txt.lower (st [c]) = st [low c] := by decide +kernel
theorem charAt_st (l : List Nat) (k : Int) (h0 : 0 ≤ k) : Txt.charAt (st l) k = l[k.toNat]? := by
  unfold Txt.charAt seqIndex?
  have e : (st l).length = l.length := st_len l
  rw [e]
  by_cases hk : k < (l.length : Int)
  · have : ¬ k < 0 := by omega
    simp [this, st, h0, hk]
  · have h1 : ¬ k < 0 := by omega
    have h2 : l.length ≤ k.toNat := by omega
    simp [h1, h0, hk, List.getElem?_eq_none h2]
section
variable {prog : Program} {w : World} {A : Around} {E : Value → Shared → Prop} {s : Shared} {env : Env}
theorem low_c {c : Nat} {t : Tok} {Q : Value → Shared → Prop} (hc : c < 128) (h : ∀ t s', Kp s s' → Q (.str (st [low c]) t) s') : wpAny (model prog w) A (call (.builtin "str.lower") [.str (st [c]) t]) Q E s := by
  refine SC.lower ?_ ?_
  · rw [lower_st c hc]; rfl
  · rw [lower_st c hc]; exact h _ _ (Kp.tok _ _)
theorem e_sitem {value slice : Expr} {pos : Pos} {Q : Value → Shared → Prop}
    (h : wpAny (model prog w) A (eval value env) (fun o s₁ => wpAny (model prog w) A (eval slice env) (fun i s₂ => ∃ l t k u c, o = .str (st l) t ∧ i = .int k u ∧ 0 ≤ k ∧ k < 2 ^ 63 ∧ l[k.toNat]? = some c ∧ ∀ t' s', Kp s₂ s' → Q (.str (st [c]) t') s') E s₁) E s)
    (hs : ∀ x t k u, subscripted slice false (.str x t) (.int k u) = operate [.str x t, .int k u] (getItem (.str x t) (.int k u)) := by intro _ _ _ _; with_unfolding_all rfl) :
    wpAny (model prog w) A (eval (.Subscript value slice pos) env) Q E s := by
  refine Subscript_ (wpAny_mono h (fun o s₁ h₁ => wpAny_mono h₁ (fun i s₂ h₂ => ?_) fun _ _ y => y) fun _ _ y => y)
  obtain ⟨l, t, k, u, c, rfl, rfl, h0, hhi, hx, hq⟩ := h₂
  refine tail_any (typeIs_str _ _ _) F.slot_str_getitem.lookup (SB.getItem ?_ ?_ ?_) (hs _ _ _ _)
  · unfold fitsSsize; simp; omega
  · rw [charAt_st _ _ h0, hx]; rfl
  · have : Txt.item (st l) k = st [c] := by unfold Txt.item; rw [charAt_st _ _ h0, hx]; rfl
    rw [this]; exact hq _ _ (Kp.tok _ _)
theorem eq_i {a b : Int} {t u : Tok} {Q : Value → Shared → Prop} (h : Q (.bool (a == b)) s) : wpAny (model prog w) A (compareOp .Eq (.int a t) (.int b u)) Q E s := eq_int h
end
end Mine
end

-- R1
section
open PySem PySem.W PyProof.Rows PySem.Calls
set_option Elab.async false
set_option linter.unusedVariables false
set_option linter.unusedSimpArgs false
namespace Mine
open PySem.Sre (M)
noncomputable def rcode : Array Nat := #[14, 8, 1, 3, 3, 1, 1, 61, 0, 16, 61, 24, 16, 2, 2, 13, 11, 9, 0, 67043328, 126, 126, 0, 0, 0, 0, 0, 1, 1]
noncomputable def hexb (c : Nat) : Bool := (48 ≤ c && c ≤ 57) || (65 ≤ c && c ≤ 70) || (97 ≤ c && c ≤ 102)
noncomputable def hit (l : List Nat) (p : Nat) : Bool := l.getD p 0 == 61 && hexb (l.getD (p + 1) 0) && hexb (l.getD (p + 2) 0)
theorem set_hex : ∀ c < 128, (decide (c < 256) && (rcode.getD (17 + (1 + c / 32)) 0).testBit (c % 32)) = hexb c := by decide +kernel
theorem inSet_hex (c : Nat) (hc : c < 128) (sn : Sre.Seen) : ∃ sn', Sre.inSet rcode c 29 17 true sn = .ok (hexb c, sn') := by
  have e1 : Sre.inSet rcode c 29 17 true sn = if (decide (c < 256) && (rcode.getD (17 + (1 + c / 32)) 0).testBit (c % 32)) = true then .ok (true, sn.add (rcode.getD (17 + 0) 0)) else Sre.inSet rcode c 28 (17 + 9) true (sn.add (rcode.getD (17 + 0) 0)) := by kernel_rfl
  have e2 : ∀ sn, Sre.inSet rcode c 28 (17 + 9) true sn = .ok (false, sn.add (rcode.getD (17 + 9 + 0) 0)) := fun _ => by kernel_rfl
  rw [e1, set_hex c hc, e2]
  cases hexb c <;> exact ⟨_, rfl⟩
theorem acc_hex (c : Nat) (hc : c < 128) (sn : Sre.Seen) : ∃ sn', Sre.accepts rcode 15 c sn = .ok (hexb c, sn') := by
  obtain ⟨sn', e⟩ := inSet_hex c hc sn
  refine ⟨sn', ?_⟩
  unfold Sre.accepts
  have o : Sre.ops[rcode.getD 15 0]? = some .IN := by kernel_rfl
  simp only [o]
  exact e
noncomputable def att (l : List Nat) (p : Nat) (f : Bool) (sn : Sre.Seen) : M :=
  { code := rcode, text := l.toArray, lim := l.length, start := p, lastStart := l.length, pc := 9, pos := p, handed := p, outermost := f, marks := #[], frames := [{ wait := .nextStart, pc := 9, pos := p, outermost := f }], weight := 1, seen := sn }
theorem for_search (l : List Nat) (p : Nat) (h : p + 3 ≤ l.length) : Sre.forSearch rcode l.toArray 0 p l.length false = att l p true (({} : Sre.Seen).add 14) := by
  unfold Sre.forSearch
  have e1 : Sre.header rcode = (3, 9) := by decide +kernel
  simp only [e1]
  have e2 : (decide (p > l.length) || decide (l.length - p < 3)) = false := by simp; omega
  rw [e2]
  with_unfolding_all rfl
theorem for_search_short (l : List Nat) (p : Nat) (h : ¬ p + 3 ≤ l.length) : ∃ m, Sre.forSearch rcode l.toArray 0 p l.length false = m ∧ (m.runFor 1).outcome = some .failed := by
  refine ⟨_, rfl, ?_⟩
  unfold Sre.forSearch
  have e1 : Sre.header rcode = (3, 9) := by decide +kernel
  simp only [e1]
  have e2 : (decide (p > l.length) || decide (l.length - p < 3)) = true := by simp; omega
  rw [e2]
  with_unfolding_all rfl
theorem runFor_add (a b : Nat) (m : M) : m.runFor (a + b) = (m.runFor a).runFor b := by
  induction a generalizing m with
  | zero => rw [Nat.zero_add]; rfl
  | succ a ih =>
    rw [Nat.add_right_comm, M.runFor, M.runFor]
    by_cases h : m.outcome.isSome = true
    · rw [if_pos h, if_pos h]
      cases b with
      | zero => rfl
      | succ b => rw [M.runFor, if_pos h]
    · rw [if_neg h, if_neg h]; exact ih _
theorem runFor_done {m : M} (h : m.outcome.isSome = true) (n : Nat) : m.runFor n = m := by
  cases n with
  | zero => rfl
  | succ n => rw [M.runFor, if_pos h]
theorem run1 {m : M} (h : m.outcome = none) (n : Nat) : m.runFor (n + 1) = m.step.runFor n := by
  rw [M.runFor, h]; rfl
noncomputable def nay (l : List Nat) (p : Nat) (f : Bool) (sn : Sre.Seen) (pc pos : Nat) : M :=
  { att l p f sn with answer := some false, pc := pc, pos := pos }
theorem nay_next (l : List Nat) (p : Nat) (f : Bool) (sn : Sre.Seen) (pc pos : Nat) (h : p < l.length) : (nay l p f sn pc pos).step = att l (p + 1) false sn := by
  have : (nay l p f sn pc pos).step = if p < l.length then att l (p + 1) false sn else (nay l p f sn pc pos).step := by
    rw [if_pos h]
    unfold M.step nay att
    simp only [Option.isSome_none, Bool.false_eq_true, if_false]
    unfold M.resume
    simp only [h, if_true, Bool.false_eq_true, if_false]
    with_unfolding_all rfl
  rw [this, if_pos h]
theorem nay_end (l : List Nat) (p : Nat) (f : Bool) (sn : Sre.Seen) (pc pos : Nat) (h : ¬ p < l.length) : ((nay l p f sn pc pos).runFor 2).outcome = some .failed := by
  rw [run1 rfl]
  have : (nay l p f sn pc pos).step = { nay l p f sn 9 p with frames := [], weight := 0 } := by
    unfold M.step nay att
    simp only [Option.isSome_none, Bool.false_eq_true, if_false]
    unfold M.resume
    simp only [h, Bool.false_eq_true, if_false]
    with_unfolding_all rfl
  rw [this]
  rfl
end Mine
end

-- U1
section
open PySem PySem.W PyProof.Rows PySem.Calls PySem.NumText
set_option Elab.async false
set_option linter.unusedVariables false
set_option linter.unusedSimpArgs false
set_option maxRecDepth 100000
namespace Mine
noncomputable def hv (c : Nat) : Nat := if c ≤ 57 then c - 48 else if c ≤ 70 then c - 55 else c - 87
noncomputable def nval (x : int_private% "Numeral") : Option Int := by
  cases x with
  | value i => exact some i
  | _ => exact none
theorem nval_eq {x : int_private% "Numeral"} {n : Int} (h : nval x = some n) : x = (int_private% "Numeral.value") n := by
  cases x with
  | value i => cases h; rfl
  | _ => cases h
theorem hex_all : ∀ a < 103, ∀ b < 103, hexb a = true → hexb b = true → nval ((int_private% "readNumeral") 0 16 [a, b]) = some ((hv a * 16 + hv b : Nat) : Int) := by decide +kernel
theorem hex_lt {a : Nat} (h : hexb a = true) : a < 103 := by unfold hexb at h; simp at h; omega
theorem hex_pos {a : Nat} (h : hexb a = true) : 0 < a := by unfold hexb at h; simp at h; omega
theorem hex_read {a b : Nat} (ha : hexb a = true) (hb : hexb b = true) : (int_private% "readNumeral") 0 16 [a, b] = (int_private% "Numeral.value") ((hv a * 16 + hv b : Nat) : Int) :=
  nval_eq (hex_all a (hex_lt ha) b (hex_lt hb) ha hb)
theorem hv_lt {a : Nat} (h : hexb a = true) : hv a < 16 := by
  unfold hexb at h; simp at h; unfold hv; split <;> (try split) <;> omega
theorem wp_text16 {M : Model} {A : Around} {E : Value → Shared → Prop} {s : Shared} {Q : Value → Shared → Prop} {v : Value} {text : List Nat} {n : Int}
    (hs : (text.takeWhile (· != 0)).length ≤ 640) (hr : (int_private% "readNumeral") 0 16 (text.takeWhile (· != 0)) = (int_private% "Numeral.value") n)
    (ha : ((text.takeWhile (· != 0)).length == text.length) = true) (h : Q (.int n s.toks) { s with toks := s.toks + 1 }) :
    wpAny M A ((int_private% "intFromText") v text 16) Q E s := by
  obtain ⟨hp, g, d, tk, os⟩ := s
  repeat (any_goals (first
    | assumption
    | (with_reducible refine wpAny_ite_true (decide_eq_true hs) ?_)
    | (with_reducible refine wpAny_ite_true (decide_eq_true ha) ?_)
    | wp_step))
  all_goals (try rw [hr])
  all_goals (try dsimp only)
  repeat (any_goals (first
    | assumption
    | (with_reducible refine wpAny_ite_true (decide_eq_true hs) ?_)
    | (with_reducible refine wpAny_ite_true (decide_eq_true ha) ?_)
    | wp_step))
set_option maxHeartbeats 4000000 in
theorem gives_hex {a b : Nat} {u u' : Tok} (ha : hexb a = true) (hb : hexb b = true) : Gives (Builtin.«int.__new__» ⟨[.type "int", .str (st [a, b]) u, .int 16 u'], []⟩) (.int ((hv a * 16 + hv b : Nat) : Int)) :=
  .of_wp fun M A E s Q h => by
    obtain ⟨hp, g, d, tk, os⟩ := s
    have f1 := F.conv_sub_int
    have f2 := F.madeHere_int
    have f6 : typeOf (.str (st [a, b]) u) = pure (.type "str") := rfl
    have hk : (if (st [a, b]).cps.all (· < 128) = true then (st [a, b]).cps.toList else Unicode.numberText (st [a, b]).cps.toList) = [a, b] := by
      have h1 : a < 128 := Nat.lt_of_lt_of_le (hex_lt ha) (by decide)
      have h2 : b < 128 := Nat.lt_of_lt_of_le (hex_lt hb) (by decide)
      simp [st, h1, h2]
    have ht : ([a, b] : List Nat).takeWhile (· != 0) = [a, b] := by
      have h1 := hex_pos ha
      have h2 := hex_pos hb
      have e1 : (a != 0) = true := by simp; omega
      have e2 : (b != 0) = true := by simp; omega
      simp [List.takeWhile, e1, e2]
    have hs : ((if (st [a, b]).cps.all (· < 128) = true then (st [a, b]).cps.toList else Unicode.numberText (st [a, b]).cps.toList).takeWhile (· != 0)).length ≤ 640 := by rw [hk, ht]; exact (by decide : 2 ≤ 640)
    have hr : (int_private% "readNumeral") 0 16 ((if (st [a, b]).cps.all (· < 128) = true then (st [a, b]).cps.toList else Unicode.numberText (st [a, b]).cps.toList).takeWhile (· != 0)) = (int_private% "Numeral.value") ((hv a * 16 + hv b : Nat) : Int) := by rw [hk, ht]; exact hex_read ha hb
    have hl : (((if (st [a, b]).cps.all (· < 128) = true then (st [a, b]).cps.toList else Unicode.numberText (st [a, b]).cps.toList).takeWhile (· != 0)).length == (if (st [a, b]).cps.all (· < 128) = true then (st [a, b]).cps.toList else Unicode.numberText (st [a, b]).cps.toList).length) = true := by rw [hk, ht]; rfl
    have hq := KIN.Hid.mk (And.intro hs (And.intro hr hl))
    clear hs hr hl hk ht
    repeat (any_goals (first
      | assumption
      | ((with_reducible show wpAny _ _ ((int_private% "intFromText") _ _ _) _ _ _); refine wp_text16 hq.out.1 hq.out.2.1 hq.out.2.2 ?_)
      | wp_step))
    all_goals first | exact ⟨_, rfl, h⟩ | trace_state
end Mine
end

-- U2
section
open PySem PySem.W PyProof.Rows PySem.Calls PySem.NumText
set_option Elab.async false
set_option linter.unusedVariables false
set_option linter.unusedSimpArgs false
namespace Mine
theorem int_check2 (a b : Value) : checkTypeCall "int" ⟨[a, b], []⟩ = pure () := by kernel_rfl
theorem int_new2 (a b : Value) : checkBuiltinCall "int.__new__" ⟨[.type "int", a, b], []⟩ = pure () := by kernel_rfl
theorem args_obj3 (o a b : Value) : argsOk "object.__init__" ⟨[o, a, b], []⟩ := by with_unfolding_all exact F.args_object_init_2 o a
theorem st_inj {a b : List Nat} (h : st a = st b) : a = b := by
  have : a.toArray = b.toArray := by injection h
  simpa using this
section
variable {prog : Program} {w : World} {A : Around} {E : Value → Shared → Prop} {s : Shared} {env : Env}
theorem call_hex {a b : Nat} {t u : Tok} {Q : Value → Shared → Prop} (ha : hexb a = true) (hb : hexb b = true) (h : ∀ t s', Kp s s' → Q (.int ((hv a * 16 + hv b : Nat) : Int) t) s') :
    wpAny (model prog w) A (call (.type "int") [.str (st [a, b]) t, .int 16 u]) Q E s :=
  callType_new F.called_int F.newNe_int (int_check2 _ _) (int_new2 _ _) (fun obj => args_obj3 obj _ _) F.entry_int_new (gives_hex ha hb).meets (show (Made.int _).post _ s from ⟨rfl, h _ _ (Kp.tok _ _)⟩)
theorem made_slice {l : List Nat} {t : Tok} {i j : Nat} {ti tj : Tok} {Q : Value → Shared → Prop} (hij : i ≤ j) (hj : j ≤ l.length) (hz : l.length ≤ sizeLine) (h : ∀ t s', Kp s s' → Q (.str (st ((l.drop i).take (j - i))) t) s') :
    (sliceMade (st l) t (some ((i : Int), ti)) (some ((j : Int), tj)) none).post Q s := by
  have e : ((slicePicked (st l) (some ((i : Int), ti)) (some ((j : Int), tj)) none).filterMap ((st l).cps[·]?)) = (l.drop i).take (j - i) := by
    have := StrLaws.sliced_plain (st l) hij (by rw [st_len]; exact hj)
    refine this.trans ?_
    simp [st]
  unfold sliceMade
  split
  · rename_i hc
    have hl : (slicePicked (st l) (some ((i : Int), ti)) (some ((j : Int), tj)) none).length = (st l).length := by simpa using hc
    have hl2 : j - i = l.length := by
      have : (slicePicked (st l) (some ((i : Int), ti)) (some ((j : Int), tj)) none) = (List.range (j - i)).map (fun k => i + k) := StrLaws.strSliceIndices_plain hij (by rw [st_len]; exact hj)
      rw [this, st_len] at hl
      simpa using hl
    have hi : i = 0 := by omega
    subst hi
    have : (l.drop 0).take (j - 0) = l := by rw [hl2]; simp
    rw [this] at h
    exact h _ _ (Kp.same _)
  · rw [e]
    exact ⟨by show (List.toArray _).size ≤ _; rw [List.size_toArray, List.length_take, List.length_drop]; exact Nat.le_trans (Nat.min_le_right _ _) (Nat.le_trans (Nat.sub_le _ _) hz), h _ _ (Kp.tok _ _)⟩
theorem e_slice {value lo hi : Expr} {p pos : Pos} {Q : Value → Shared → Prop}
    (h : wpAny (model prog w) A (eval value env) (fun o s₁ => wpAny (model prog w) A (eval lo env) (fun vl s₂ => wpAny (model prog w) A (eval hi env) (fun vu s₃ =>
      ∃ l t i ti j tj, o = .str (st l) t ∧ vl = .int ((i : Nat) : Int) ti ∧ vu = .int ((j : Nat) : Int) tj ∧ i ≤ j ∧ j ≤ l.length ∧ l.length ≤ sizeLine ∧ ∀ t s', Kp s₃ s' → Q (.str (st ((l.drop i).take (j - i))) t) s') E s₂) E s₁) E s)
    (ht : ∀ o r, letTemporaryGo value o r = pure () := by intro _ _; rfl) :
    wpAny (model prog w) A (eval (.Subscript value (.Slice (some lo) (some hi) none p) pos) env) Q E s := by
  refine wpAny_Subscript_str_slice (wpAny_mono h (fun o s₁ h₁ => wpAny_mono h₁ (fun vl s₂ h₂ => wpAny_mono h₂ (fun vu s₃ h₃ => ?_) fun _ _ y => y) fun _ _ y => y) fun _ _ y => y) ht
  obtain ⟨l, t, i, ti, j, tj, rfl, rfl, rfl, hij, hj, hzz, hq⟩ := h₃
  exact ⟨st l, t, some ((i : Int), ti), some ((j : Int), tj), rfl, rfl, rfl, made_slice hij hj hzz fun t s' k => hq t s' ((Kp.push s₃ _ s₃.toks).trans k)⟩
end
theorem boot_chr : bootBuiltins (Str.ofString "chr") = some (.builtin "chr") := by kernel_rfl
theorem boot_int : bootBuiltins (Str.ofString "int") = some (.type "int") := by kernel_rfl
theorem unquote_spec {prog : Program} {w : World} {A : Around} {E : Value → Shared → Prop} {s : Shared} {a b : Nat} {t : Tok} (Rm : Room A 2 10) (B : Bs w s.heap) (ha : hexb a = true) (hb : hexb b = true) :
    wpAny (model prog w) A (call (.ref 50) [.str (st [61, a, b]) t]) (fun x s' => Kp s s' ∧ ∃ t', x = .str (st [hv a * 16 + hv b]) t') E s := by
  have hz : (fun (_ : PySem.W.OpenLaw × (Params → Frag)) => True) (PySem.Challenge.rw_of0070_01, Mine.hd.heap_39) := by (k_fill; trivial)
  have lt : hv a * 16 + hv b < 256 := by have := hv_lt ha; have := hv_lt hb; omega
  refine wpAny_call (enterR B Rm.low (by k_is) (by k_is) (BindsTo.of_eq rfl) (locs rfl) ?_)
  intro s' A1 DA H
  replace Rm := Rm.deep DA (d' := 1) (u' := 7) (by decide) (by decide)
  generalize s.heap.objs.size = L at H ⊢
  with_reducible refine x_ret ?_
  with_reducible refine c_bi (H.bs B) (by k_is) boot_chr ?_
  with_reducible refine i_cons ?_
  with_reducible refine c_ty (H.bs B) (by k_is) boot_int ?_
  with_reducible refine i_cons ?_
  refine e_slice ?_
  refine n_loc H.ns rfl ?_
  with_reducible refine k_int ?_
  intro t1 s1 k1
  with_reducible refine k_int ?_
  intro t2 s2 k2
  refine ⟨_, _, 1, _, 3, _, rfl, rfl, rfl, by decide, Nat.le_refl 3, (by decide : 3 ≤ sizeLine), ?_⟩
  intro t3 s3 k3
  with_reducible refine i_cons ?_
  with_reducible refine k_int ?_
  intro t4 s4 k4
  with_reducible refine i_nil ?_
  refine call_hex ha hb ?_
  intro t5 s5 k5
  with_reducible refine i_nil ?_
  refine chr_i (by omega) (by omega) ?_
  intro t6 s6 k6
  rw [Int.toNat_natCast]
  exact ⟨H.done.trans (k1.trans (k2.trans (k3.trans (k4.trans (k5.trans k6))))), _, rfl⟩
end Mine
end

-- R2
section
open PySem PySem.W PyProof.Rows PySem.Calls
set_option Elab.async false
set_option linter.unusedVariables false
set_option linter.unusedSimpArgs false
namespace Mine
open PySem.Sre (M)
noncomputable def at11 (l : List Nat) (p : Nat) (f : Bool) (sn : Sre.Seen) : M := { att l p f sn with pc := 11, pos := p + 1 }
theorem o9 : Sre.ops[rcode.getD (9 + 0) 0]? = some .LITERAL := by kernel_rfl
theorem o11 : Sre.ops[rcode.getD (11 + 0) 0]? = some .REPEAT_ONE := by kernel_rfl
theorem acc9 (c : Nat) (sn : Sre.Seen) : Sre.accepts rcode 9 c sn = .ok (c == 61, sn) := by
  unfold Sre.accepts
  have o : Sre.ops[rcode.getD 9 0]? = some .LITERAL := by kernel_rfl
  simp only [o]
  rfl
theorem step_of {m : M} (ho : m.outcome = none) (ha : m.answer = none) (hp : m.pc < m.code.size) : m.step = m.exec := by
  unfold M.step
  rw [ho, ha]
  simp [hp]
theorem att_no (l : List Nat) (p : Nat) (f : Bool) (sn : Sre.Seen) (h : l.getD p 0 ≠ 61) : ∃ sn', (att l p f sn).step = nay l p f sn' 9 p := by
  rw [step_of rfl rfl (show 9 < 29 by decide)]
  unfold M.exec
  have o : Sre.ops[(att l p f sn).word 0]? = some .LITERAL := o9
  simp only [o]
  by_cases hp : l.length ≤ p
  · exact ⟨sn.add 16, (if_pos hp).trans rfl⟩
  · refine ⟨sn.add 16, (if_neg hp).trans ?_⟩
    have e : Sre.accepts (att l p f sn).code (att l p f sn).pc (l.toArray.getD p 0) ((att l p f sn).seen.add ((att l p f sn).word 0)) = .ok (false, sn.add 16) := by
      refine (acc9 _ _).trans ?_
      have : (l.toArray.getD p 0 == 61) = false := by simpa using h
      rw [this]; rfl
    simp only [att] at e ⊢
    rw [e]; rfl
theorem att_yes (l : List Nat) (p : Nat) (f : Bool) (sn : Sre.Seen) (h : l.getD p 0 = 61) : ∃ sn', (att l p f sn).step = at11 l p f sn' := by
  have hp : ¬ l.length ≤ p := fun hp => by rw [List.getD_eq_getElem?_getD, List.getElem?_eq_none hp] at h; simp at h
  rw [step_of rfl rfl (show 9 < 29 by decide)]
  unfold M.exec
  have o : Sre.ops[(att l p f sn).word 0]? = some .LITERAL := o9
  simp only [o]
  refine ⟨sn.add 16, (if_neg hp).trans ?_⟩
  have e : Sre.accepts (att l p f sn).code (att l p f sn).pc (l.toArray.getD p 0) ((att l p f sn).seen.add ((att l p f sn).word 0)) = .ok (true, sn.add 16) := by
    refine (acc9 _ _).trans ?_
    have : (l.toArray.getD p 0 == 61) = true := by simpa using h
    rw [this]; rfl
  simp only [att] at e ⊢
  rw [e]
  have e2 : Sre.itemWidth rcode 9 = 2 := by kernel_rfl
  simp only [at11, att, e2]
theorem hex0 : hexb 0 = false := rfl
theorem run_hex (l : List Nat) (hl : ∀ c ∈ l, c < 128) (p : Nat) (sn : Sre.Seen) : ∃ n sn', Sre.run rcode l.toArray 15 (min 2 (l.length - p)) p 0 sn = .ok (n, sn') ∧ n ≤ 2 ∧ (n = 2 ↔ (hexb (l.getD p 0) = true ∧ hexb (l.getD (p + 1) 0) = true)) := by
  have lt : ∀ q, l.getD q 0 < 128 := by
    intro q
    rw [List.getD_eq_getElem?_getD]
    cases e : l[q]? with
    | none => simp
    | some c => exact hl c (List.mem_of_getElem? e)
  have ar : ∀ q, l.toArray.getD q 0 = l.getD q 0 := by intro q; simp
  have out : ∀ q, l.length ≤ q → hexb (l.getD q 0) = false := by
    intro q hq; rw [List.getD_eq_getElem?_getD, List.getElem?_eq_none hq]; rfl
  obtain ⟨sn1, e1⟩ := acc_hex (l.getD p 0) (lt p) sn
  by_cases h0 : l.length ≤ p
  · have : min 2 (l.length - p) = 0 := by rw [Nat.sub_eq_zero_of_le h0]; rfl
    rw [this]
    refine ⟨0, sn, rfl, by omega, ?_⟩
    rw [out p h0]; simp
  by_cases h1 : l.length ≤ p + 1
  · have : min 2 (l.length - p) = 1 := by
      have : l.length - p = 1 := by omega
      rw [this]; rfl
    rw [this, Sre.run, ar, e1]
    have o1 := out (p + 1) h1
    cases hx : hexb (l.getD p 0) with
    | false => exact ⟨0, sn1, rfl, by omega, by simp⟩
    | true => exact ⟨1, sn1, rfl, by omega, by simp [← List.getD_eq_getElem?_getD]; rw [List.getD_eq_getElem?_getD] at o1; simpa using o1⟩
  · have : min 2 (l.length - p) = 2 := Nat.min_eq_left (Nat.le_sub_of_add_le (by omega))
    rw [this, Sre.run, ar, e1]
    cases hx : hexb (l.getD p 0) with
    | false => exact ⟨0, sn1, rfl, by omega, by simp⟩
    | true =>
      obtain ⟨sn2, e2⟩ := acc_hex (l.getD (p + 1) 0) (lt (p + 1)) sn1
      show ∃ n sn', Sre.run rcode l.toArray 15 1 (p + 1) (0 + 1) sn1 = .ok (n, sn') ∧ _
      rw [Sre.run, ar, e2]
      cases hy : hexb (l.getD (p + 1) 0) with
      | false => exact ⟨1, sn2, rfl, by omega, by simp⟩
      | true => exact ⟨2, sn2, rfl, by omega, by simp⟩
noncomputable def yea (l : List Nat) (p : Nat) (f : Bool) (sn : Sre.Seen) : M :=
  { att l p f sn with pc := 28, pos := p + 3, handed := p + 3, weight := 2, frames := [{ wait := .giveBack, pc := 11, pos := p + 3, outermost := f, count := 2 }, { wait := .nextStart, pc := 9, pos := p, outermost := f }] }
theorem at11_no (l : List Nat) (hl : ∀ c ∈ l, c < 128) (p : Nat) (f : Bool) (sn : Sre.Seen) (h : ¬ (hexb (l.getD (p + 1) 0) = true ∧ hexb (l.getD (p + 2) 0) = true)) : ∃ sn', (at11 l p f sn).step = nay l p f sn' 11 (p + 1) := by
  rw [step_of rfl rfl (show 11 < 29 by decide)]
  unfold M.exec
  have o : Sre.ops[(at11 l p f sn).word 0]? = some .REPEAT_ONE := o11
  simp only [o]
  have hw : ∀ s, ({ at11 l p f sn with seen := s } : M).word 2 = 2 := fun _ => rfl
  by_cases hr : ((2 : Nat) : Int) > (l.length : Int) - ((p + 1 : Nat) : Int)
  · exact ⟨sn.add 24, (if_pos hr).trans rfl⟩
  · obtain ⟨n, sn', e, hn, hx⟩ := run_hex l hl (p + 1) ((sn.add 24).add 13)
    refine ⟨sn', (if_neg hr).trans ?_⟩
    have e' : Sre.run rcode l.toArray (11 + 4) (min 2 ((l.length : Int) - ((p + 1 : Nat) : Int)).toNat) (p + 1) 0 ((sn.add 24).add 13) = .ok (n, sn') := by
      have : ((l.length : Int) - ((p + 1 : Nat) : Int)).toNat = l.length - (p + 1) := Int.toNat_sub _ _
      rw [this]; exact e
    have hlt : n < 2 := by
      have : n ≠ 2 := fun h2 => h (hx.mp h2)
      omega
    show (match Sre.run rcode l.toArray (11 + 4) (min 2 ((l.length : Int) - ((p + 1 : Nat) : Int)).toNat) (p + 1) 0 ((sn.add 24).add 13) with | .error why => _ | .ok (n, seen) => _) = _
    rw [e']
    exact (if_pos hlt).trans rfl
theorem at11_yes (l : List Nat) (hl : ∀ c ∈ l, c < 128) (p : Nat) (f : Bool) (sn : Sre.Seen) (h : hexb (l.getD (p + 1) 0) = true ∧ hexb (l.getD (p + 2) 0) = true) : ∃ sn', (at11 l p f sn).step = yea l p f sn' := by
  have hp : p + 2 < l.length := by
    have h2 := h.2
    refine Nat.lt_of_not_le fun hp => ?_
    rw [List.getD_eq_getElem?_getD, List.getElem?_eq_none hp] at h2
    cases h2
  rw [step_of rfl rfl (show 11 < 29 by decide)]
  unfold M.exec
  have o : Sre.ops[(at11 l p f sn).word 0]? = some .REPEAT_ONE := o11
  simp only [o]
  have hr : ¬ ((2 : Nat) : Int) > (l.length : Int) - ((p + 1 : Nat) : Int) := by omega
  obtain ⟨n, sn', e, hn, hx⟩ := run_hex l hl (p + 1) ((sn.add 24).add 13)
  have : n = 2 := hx.mpr h
  subst this
  refine ⟨sn', (if_neg hr).trans ?_⟩
  have e' : Sre.run rcode l.toArray (11 + 4) (min 2 ((l.length : Int) - ((p + 1 : Nat) : Int)).toNat) (p + 1) 0 ((sn.add 24).add 13) = .ok (2, sn') := by
    have : ((l.length : Int) - ((p + 1 : Nat) : Int)).toNat = l.length - (p + 1) := Int.toNat_sub _ _
    rw [this]; exact e
  show (match Sre.run rcode l.toArray (11 + 4) (min 2 ((l.length : Int) - ((p + 1 : Nat) : Int)).toNat) (p + 1) 0 ((sn.add 24).add 13) with | .error why => _ | .ok (n, seen) => _) = _
  rw [e']
  rfl
theorem yea_end (l : List Nat) (p : Nat) (f : Bool) (sn : Sre.Seen) : ∃ m, (yea l p f sn).runFor 4 = m ∧ m.outcome = some .matched ∧ m.start = p ∧ m.handed = p + 3 ∧ m.lastindex = -1 := by
  refine ⟨_, rfl, ?_⟩
  cases f <;> exact ⟨rfl, rfl, rfl, rfl⟩
noncomputable def Fnd (l : List Nat) (p : Nat) (m : Sre.M) : Prop := (∃ q, p ≤ q ∧ hit l q = true ∧ (∀ j, p ≤ j → j < q → hit l j = false) ∧ m.outcome = some .matched ∧ m.start = q ∧ m.handed = q + 3 ∧ m.lastindex = -1) ∨ ((∀ j, p ≤ j → hit l j = false) ∧ m.outcome = some .failed)
theorem search_from (l : List Nat) (hl : ∀ c ∈ l, c < 128) : ∀ k p f sn, l.length + 1 - p = k → ∃ n m, n ≤ 3 * k + 8 ∧ (att l p f sn).runFor n = m ∧
    Fnd l p m := by
  intro k
  induction k with
  | zero =>
    intro p f sn hk
    have hp : l.getD p 0 ≠ 61 := by rw [List.getD_eq_getElem?_getD, List.getElem?_eq_none (by omega)]; decide
    obtain ⟨sn', e⟩ := att_no l p f sn hp
    refine ⟨3, _, by omega, rfl, Or.inr ⟨fun j hj => ?_, ?_⟩⟩
    · unfold hit
      rw [List.getD_eq_getElem?_getD, List.getElem?_eq_none (by omega)]; rfl
    · rw [run1 rfl, e]; exact nay_end l p f sn' 9 p (by omega)
  | succ k ih =>
    intro p f sn hk
    have past : ∀ sn' pc pos, hit l p = false → ∃ n m, n ≤ 3 * k + 9 ∧ (nay l p f sn' pc pos).runFor n = m ∧
      Fnd l p m := by
      intro sn' pc pos h0
      have low : ∀ j, p ≤ j → ¬ p + 1 ≤ j → hit l j = false := by
        intro j h1 h2
        have : j = p := by omega
        rw [this]; exact h0
      by_cases hp : p < l.length
      · obtain ⟨n, m, hn, e, r⟩ := ih (p + 1) false sn' (congrArg Nat.pred hk)
        refine ⟨n + 1, m, by omega, ?_, ?_⟩
        · rw [run1 rfl, nay_next l p f sn' pc pos hp]; exact e
        · rcases r with ⟨q, hq, hh, hm, r⟩ | ⟨hm, r⟩
          · refine Or.inl ⟨q, by omega, hh, fun j h1 h2 => ?_, r⟩
            by_cases h3 : p + 1 ≤ j
            · exact hm j h3 h2
            · exact low j h1 h3
          · refine Or.inr ⟨fun j h1 => ?_, r⟩
            by_cases h3 : p + 1 ≤ j
            · exact hm j h3
            · exact low j h1 h3
      · refine ⟨2, _, by omega, rfl, Or.inr ⟨fun j hj => ?_, nay_end l p f sn' pc pos hp⟩⟩
        unfold hit
        rw [List.getD_eq_getElem?_getD, List.getElem?_eq_none (by omega)]; rfl
    by_cases h61 : l.getD p 0 = 61
    · obtain ⟨sn1, e1⟩ := att_yes l p f sn h61
      by_cases hx : hexb (l.getD (p + 1) 0) = true ∧ hexb (l.getD (p + 2) 0) = true
      · obtain ⟨sn2, e2⟩ := at11_yes l hl p f sn1 hx
        obtain ⟨m, e3, r⟩ := yea_end l p f sn2
        refine ⟨6, m, by omega, ?_, Or.inl ⟨p, Nat.le_refl _, ?_, fun j h1 h2 => by omega, r⟩⟩
        · rw [run1 rfl, e1, run1 rfl, e2]; exact e3
        · unfold hit; rw [h61, hx.1, hx.2]; rfl
      · obtain ⟨sn2, e2⟩ := at11_no l hl p f sn1 hx
        obtain ⟨n, m, hn, e3, r⟩ := past sn2 11 (p + 1) (by
          unfold hit; rw [h61]
          cases h1 : hexb (l.getD (p + 1) 0) <;> cases h2 : hexb (l.getD (p + 2) 0) <;> simp_all)
        exact ⟨n + 2, m, by omega, by rw [run1 rfl, e1, run1 rfl, e2]; exact e3, r⟩
    · obtain ⟨sn1, e1⟩ := att_no l p f sn h61
      obtain ⟨n, m, hn, e3, r⟩ := past sn1 9 p (by unfold hit; have : (l.getD p 0 == 61) = false := by simpa using h61
                                                   rw [this]; rfl)
      exact ⟨n + 1, m, by omega, by rw [run1 rfl, e1]; exact e3, r⟩
theorem search (l : List Nat) (hl : ∀ c ∈ l, c < 128) (p : Nat) : ∃ n m, n ≤ 3 * l.length + 20 ∧ (Sre.forSearch rcode l.toArray 0 p l.length false).runFor n = m ∧
    Fnd l p m := by
  by_cases h : p + 3 ≤ l.length
  · rw [for_search l p h]
    obtain ⟨n, m, hn, r⟩ := search_from l hl _ p true (({} : Sre.Seen).add 14) rfl
    exact ⟨n, m, by omega, r⟩
  · obtain ⟨m, e, r⟩ := for_search_short l p h
    refine ⟨1, _, by omega, rfl, Or.inr ⟨fun j hj => ?_, by rw [e]; exact r⟩⟩
    unfold hit
    rw [List.getD_eq_getElem?_getD (i := j + 2), List.getElem?_eq_none (by omega)]
    simp [hex0]
end Mine
end

-- R3
section
open PySem PySem.W PyProof.Rows PySem.Calls
set_option Elab.async false
set_option linter.unusedVariables false
set_option linter.unusedSimpArgs false
namespace Mine
theorem pa_match : PlainAttrs "re.Match" :=
  ⟨⟨"object.__getattribute__", by rw [typeLookup_type, builtinLookup_eq_fast]; kernel_rfl, by decide +kernel⟩, by rw [typeLookup_type, builtinLookup_eq_fast]; kernel_rfl⟩
theorem slot_group : Slot "re.Match" (Str.ofString "group") "re.Match.group" :=
  .of (owner := "re.Match") (n := "group") (by rw [typeLookup_type, builtinLookup_eq_fast]; kernel_rfl) (by decide +kernel) (by decide +kernel) (by decide +kernel)
    (by first | exact .inl (by decide +kernel) | exact .inr (by decide +kernel)) (by rw [isSubtype_type]; kernel_rfl)
theorem type_group : typeOf (.builtin "re.Match.group") = pure (.type "method_descriptor") := by show builtinType _ = _; rw [builtinType_eq_fast]; kernel_rfl
theorem entry_group : entryFor table "re.Match.group" = some Builtin.«re.Match.group» := entryFor_of_tree (by kernel_rfl)
theorem args_group (a b : Value) : argsOk "re.Match.group" ⟨[a, b], []⟩ := by unfold argsOk; kernel_rfl
theorem pa_pat : PlainAttrs "re.Pattern" :=
  ⟨⟨"object.__getattribute__", by rw [typeLookup_type, builtinLookup_eq_fast]; kernel_rfl, by decide +kernel⟩, by rw [typeLookup_type, builtinLookup_eq_fast]; kernel_rfl⟩
theorem slot_sub : Slot "re.Pattern" (Str.ofString "sub") "re.Pattern.sub" :=
  .of (owner := "re.Pattern") (n := "sub") (by rw [typeLookup_type, builtinLookup_eq_fast]; kernel_rfl) (by decide +kernel) (by decide +kernel) (by decide +kernel)
    (by first | exact .inl (by decide +kernel) | exact .inr (by decide +kernel)) (by rw [isSubtype_type]; kernel_rfl)
theorem type_sub : typeOf (.builtin "re.Pattern.sub") = pure (.type "method_descriptor") := by show builtinType _ = _; rw [builtinType_eq_fast]; kernel_rfl
theorem entry_sub : entryFor table "re.Pattern.sub" = some Builtin.«re.Pattern.sub» := entryFor_of_tree (by kernel_rfl)
theorem entry_subloop : entryFor table "re.Pattern.sub.loop" = some Builtin.«re.Pattern.sub.loop» := entryFor_of_tree (by kernel_rfl)
theorem args_sub (a b c : Value) : argsOk "re.Pattern.sub" ⟨[a, b, c], []⟩ := by unfold argsOk; kernel_rfl
theorem plain_subloop : plainId "re.Pattern.sub.loop" = true := by decide +kernel
theorem plain_sub : plainId "re.Pattern.sub" = true := by decide +kernel
structure IsMatch (h : Heap) (a : Addr) (l : List Nat) (p q : Nat) : Prop where
  ob : ∃ t x y z u tup, h.get? a = some { cls := .type "re.Match", data := .fields #[.str (st l) t, x, y, z, u, .ref tup] } ∧ h.get? tup = some { cls := .type "tuple", data := .seq #[rawInt p, rawInt q] }
theorem IsMatch.keeps {h h' : Heap} {a : Addr} {l : List Nat} {p q : Nat} (x : IsMatch h a l p q) (k : ∀ b o, h.get? b = some o → h'.get? b = some o) : IsMatch h' a l p q :=
  ⟨let ⟨t, x, y, z, u, tup, e1, e2⟩ := x.ob; ⟨t, x, y, z, u, tup, k _ _ e1, k _ _ e2⟩⟩
section
variable {prog : Program} {w : World} {A : Around} {E : Value → Shared → Prop} {s : Shared} {env : Env}
theorem gm_group {a : Addr} {l : List Nat} {p q : Nat} {pl : Sem Bool} {Q : Value × List Value → Shared → Prop} (M : IsMatch s.heap a l p q) (h : Q (.builtin "re.Match.group", [.ref a]) s) :
    wpAny (model prog w) A (getMethod (.ref a) (Str.ofString "group") pl) Q E s := by
  obtain ⟨t, x, y, z, u, tup, e1, e2⟩ := M.ob
  exact getMethod_builtin ⟨_, e1, rfl⟩ pa_match slot_group type_group (fun b e => by cases e; exact ⟨_, e1, rfl⟩) h
theorem wp_slice {l : List Nat} {p q : Nat} {Q : Value → Shared → Prop} (hz : l.length ≤ sizeLine) (h : ∀ t s', Kp s s' → Q (.str (st ((l.drop p).take (q - p))) t) s') :
    wpAny (model prog w) A (Builtin.Re.reSlice l.toArray 0 p q) Q E s := by
  unfold Builtin.Re.reSlice
  have e : (⟨l.toArray.extract p q⟩ : Str) = st ((l.drop p).take (q - p)) := by
    show (⟨_⟩ : Str) = ⟨_⟩
    rw [List.extract_toArray, List.extract_eq_take_drop]
  show wpAny _ _ (mkStr ⟨l.toArray.extract p q⟩) _ _ _
  rw [e]
  refine wpAny_mkStr (h _ _ (Kp.tok _ _)) ?_
  rw [st_len, List.length_take, List.length_drop]; exact Nat.le_trans (Nat.min_le_right _ _) (Nat.le_trans (Nat.sub_le _ _) hz)
theorem asStr_val {x : Str} {t : Tok} {Q : Option Str → Shared → Prop} (h : Q (some x) s) : wpAny (model prog w) A (asStr? (.str x t)) Q E s := wpAny_pure h
theorem wp_text0 {l : List Nat} {t : Tok} {Q : Array Nat × Nat → Shared → Prop} (h : Q (l.toArray, 0) s) : wpAny (model prog w) A (Builtin.Re.reTextOf (.str (st l) t)) Q E s := by
  unfold Builtin.Re.reTextOf
  exact wpAny_bind (asStr_val (wpAny_pure h))
theorem wp_raw {a : Addr} {o : Obj} {items : Array Value} {n : Nat} {Q : Array Int → Shared → Prop} (ho : s.heap.get? a = some o) (hd : o.data = .seq items n) (h : Q (items.map Builtin.Re.reRawOf) s) :
    wpAny (model prog w) A (Builtin.Re.reRawItems (.ref a)) Q E s := by
  unfold Builtin.Re.reRawItems
  exact wpAny_bind (wpAny_seqItems ho hd (wpAny_pure h))
theorem call_group {a : Addr} {l : List Nat} {p q : Nat} {t : Tok} {Q : Value → Shared → Prop} (M : IsMatch s.heap a l p q) (hz : l.length ≤ sizeLine) (h : ∀ t s', Kp s s' → Q (.str (st ((l.drop p).take (q - p))) t) s') :
    wpAny (model prog w) A (call (.builtin "re.Match.group") [.ref a, .int 0 t]) Q E s := by
  obtain ⟨tt, x, y, z, u, tup, e1, e2⟩ := M.ob
  refine wpAny_call_entry slot_group ⟨_, e1, rfl⟩ entry_group ?_ (args_group _ _)
  unfold Builtin.«re.Match.group»
  refine wpAny_bind ?_
  refine wpAny_of_eq (a := ()) rfl ?_
  dsimp only
  refine wpAny_bind ?_
  unfold Builtin.Re.reFound
  refine wpAny_bind (wpAny_fieldsOf e1 rfl ?_)
  refine wpAny_bind ?_
  refine wp_raw (o := { cls := .type "tuple", data := .seq #[rawInt p, rawInt q] }) e2 rfl (wpAny_pure ?_)
  have e : (Array.map Builtin.Re.reRawOf #[rawInt (p : Int), rawInt (q : Int)]) = #[(p : Int), (q : Int)] := by simp [rawInt, Builtin.Re.reRawOf]
  rw [e]
  refine wpAny_bind ?_
  refine wpAny_bind ?_
  refine wpAny_pure ?_
  refine wpAny_bind (wpAny_pure ?_)
  refine wpAny_of_eq (a := 0) rfl ?_
  refine wpAny_bind ?_
  unfold Builtin.Re.reGroupText
  have hneg : (decide ((p : Int) < 0) || decide ((q : Int) < 0)) = false := by simp
  show wpAny _ _ (if (decide ((p : Int) < 0) || decide ((q : Int) < 0)) = true then _ else _) _ _ _
  rw [hneg]
  refine wpAny_bind (wp_text0 ?_)
  refine wp_slice hz ?_
  intro t1 s1 k1
  exact wpAny_pure ⟨_, rfl, h _ _ k1⟩
end
theorem umatch_spec {prog : Program} {w : World} {A : Around} {E : Value → Shared → Prop} {s : Shared} {a : Addr} {l : List Nat} {p x y : Nat} (Rm : Room A 3 20) (B : Bs w s.heap) (M : IsMatch s.heap a l p (p + 3)) (hz0 : l.length ≤ sizeLine)
    (e : (l.drop p).take 3 = [61, x, y]) (hx : hexb x = true) (hy : hexb y = true) :
    wpAny (model prog w) A (call (.ref 65) [.ref a]) (fun v s' => Kp s s' ∧ ∃ t', v = .str (st [hv x * 16 + hv y]) t') E s := by
  have hz : (fun (_ : PySem.W.OpenLaw × (Params → Frag)) => True) (PySem.Challenge.rw_of0070_01, Mine.hd.heap_39) := by (k_fill; trivial)
  refine wpAny_call (enterR B Rm.low (by k_is) (by k_is) (BindsTo.of_eq rfl) (locs rfl) ?_)
  intro s' A1 DA H
  replace Rm := Rm.deep DA (d' := 2) (u' := 17) (by decide) (by decide)
  generalize s.heap.objs.size = L at H ⊢
  replace H : St s.heap L [(Str.ofString "match", .ref a)] [] s s' := H
  with_reducible refine x_assign ?_ (by kernel_rfl)
  with_reducible refine m_call ?_
  refine n_loc H.ns rfl ?_
  refine gm_group (M.keeps H.keep) ?_
  with_reducible refine cw1 ?_
  with_reducible refine i_cons ?_
  with_reducible refine k_int ?_
  intro t1 s1 k1
  with_reducible refine i_nil ?_
  replace H := H.keeps k1
  refine call_group (M.keeps H.keep) hz0 ?_
  intro t2 s2 k2
  replace H := H.keeps k2
  have e3 : p + 3 - p = 3 := by omega
  rw [e3, e]
  refine s_loc H ?_
  intro s3 H
  with_reducible refine x_ret ?_
  with_reducible refine c_fn (fa := 50) (H.bs B) (by k_is) (by k_is) ?_
  with_reducible refine i_cons ?_
  refine n_loc H.ns rfl ?_
  with_reducible refine i_nil ?_
  refine ⟨H.bs B, ?_⟩
  refine wpAny_mono (unquote_spec (Rm.le (by decide) (by decide)) (H.bs B) hx hy) (fun v s4 h4 => ?_) fun _ _ z => z
  exact ⟨H.done.trans h4.1, h4.2⟩
end Mine
end

-- R4
section
open PySem PySem.W PyProof.Rows PySem.Calls
set_option Elab.async false
set_option linter.unusedVariables false
set_option linter.unusedSimpArgs false
namespace Mine
noncomputable def scanS : Nat → List Nat → List Nat
  | _, [] => []
  | k + 1, _ :: r => scanS k r
  | 0, c :: r => if c = 61 ∧ hexb (r.getD 0 0) = true ∧ hexb (r.getD 1 0) = true then (hv (r.getD 0 0) * 16 + hv (r.getD 1 0)) :: scanS 2 r else c :: scanS 0 r
noncomputable def scan (l : List Nat) : List Nat := scanS 0 l
theorem scanS_two : ∀ r, scanS 2 r = scan (r.drop 2)
  | [] => rfl
  | [_] => rfl
  | _ :: _ :: _ => rfl
theorem scan_nil : scan [] = [] := rfl
theorem scan_cons (c : Nat) (r : List Nat) : scan (c :: r) = if c = 61 ∧ hexb (r.getD 0 0) = true ∧ hexb (r.getD 1 0) = true then (hv (r.getD 0 0) * 16 + hv (r.getD 1 0)) :: scan (r.drop 2) else c :: scan r :=
  scanS_two r ▸ rfl
theorem drop_cons {l : List Nat} {p : Nat} (h : p < l.length) : l.drop p = l.getD p 0 :: l.drop (p + 1) := by
  rw [List.drop_eq_getElem_cons h, List.getD_eq_getElem?_getD, List.getElem?_eq_getElem h]; rfl
theorem getD_drop (l : List Nat) (p k : Nat) : (l.drop p).getD k 0 = l.getD (p + k) 0 := by
  simp [List.getD_eq_getElem?_getD]
theorem hit_lt {l : List Nat} {p : Nat} (h : hit l p = true) : p + 2 < l.length := by
  unfold hit at h
  simp only [Bool.and_eq_true] at h
  refine Nat.lt_of_not_le fun hp => ?_
  have h2 := h.2
  rw [List.getD_eq_getElem?_getD, List.getElem?_eq_none hp] at h2
  cases h2
theorem scan_hit {l : List Nat} {p : Nat} (h : hit l p = true) : scan (l.drop p) = (hv (l.getD (p + 1) 0) * 16 + hv (l.getD (p + 2) 0)) :: scan (l.drop (p + 3)) := by
  have hp := hit_lt h
  unfold hit at h
  simp only [Bool.and_eq_true, beq_iff_eq] at h
  rw [drop_cons (by omega), scan_cons]
  have e0 : (l.drop (p + 1)).getD 0 0 = l.getD (p + 1) 0 := getD_drop l (p + 1) 0
  have e1 : (l.drop (p + 1)).getD 1 0 = l.getD (p + 2) 0 := getD_drop l (p + 1) 1
  simp only [e0, e1]
  rw [if_pos ⟨h.1.1, h.1.2, h.2⟩, List.drop_drop]
theorem scan_miss {l : List Nat} {p : Nat} (hp : p < l.length) (h : hit l p = false) : scan (l.drop p) = l.getD p 0 :: scan (l.drop (p + 1)) := by
  rw [drop_cons hp, scan_cons]
  have e0 : (l.drop (p + 1)).getD 0 0 = l.getD (p + 1) 0 := getD_drop l (p + 1) 0
  have e1 : (l.drop (p + 1)).getD 1 0 = l.getD (p + 2) 0 := getD_drop l (p + 1) 1
  simp only [e0, e1]
  rw [if_neg]
  rintro ⟨h1, h2, h3⟩
  unfold hit at h
  rw [h1, h2, h3] at h
  cases h
theorem scan_to {l : List Nat} {d q : Nat} (hdq : d ≤ q) (hq : q ≤ l.length) (hm : ∀ j, d ≤ j → j < q → hit l j = false) : scan (l.drop d) = (l.drop d).take (q - d) ++ scan (l.drop q) := by
  induction hk : q - d generalizing d with
  | zero =>
    have : d = q := by omega
    subst this; simp
  | succ k ih =>
    rw [scan_miss (by omega) (hm d (Nat.le_refl _) (by omega)), drop_cons (p := d) (by omega), List.take_succ_cons, List.cons_append]
    rw [ih (d := d + 1) (by omega) (fun j h1 h2 => hm j (Nat.le_of_succ_le h1) h2) (congrArg Nat.pred hk)]
theorem scan_none {l : List Nat} {d : Nat} (hd : d ≤ l.length) (hm : ∀ j, d ≤ j → hit l j = false) : scan (l.drop d) = l.drop d := by
  rw [scan_to hd (Nat.le_refl _) (fun j h1 _ => hm j h1)]
  rw [List.drop_length, scan_nil, List.append_nil, List.take_of_length_le (by simp)]
theorem hit_take {l : List Nat} {p : Nat} (h : hit l p = true) : (l.drop p).take 3 = [61, l.getD (p + 1) 0, l.getD (p + 2) 0] := by
  have hp := hit_lt h
  unfold hit at h
  simp only [Bool.and_eq_true, beq_iff_eq] at h
  rw [drop_cons (by omega), drop_cons (by omega), drop_cons (by omega), h.1.1]
  simp
section
variable {prog : Program} {w : World} {A : Around} {E : Value → Shared → Prop} {s : Shared}
theorem wp_drive {Q : Sre.M → Shared → Prop} : ∀ (T : Nat) (m : Sre.M) (n : Nat), n ≤ 4 * T → 0 < T → (m.runFor n).outcome.isSome = true → Q (m.runFor n) s → wpAny (model prog w) A (Builtin.Re.reDrive T m) Q E s := by
  intro T
  induction T with
  | zero => intro m n hn h0; omega
  | succ T ih =>
    intro m n hn h0 ho hq
    unfold Builtin.Re.reDrive
    show wpAny _ _ (if (m.runFor 4).outcome.isSome = true then pure (m.runFor 4) else do rule "sre.turn"; Builtin.Re.reDrive T (m.runFor 4)) _ _ _
    by_cases h4 : (m.runFor 4).outcome.isSome = true
    · rw [if_pos h4]
      refine wpAny_pure ?_
      have : m.runFor 4 = m.runFor n := by
        by_cases hn4 : n ≤ 4
        · have e := runFor_add n (4 - n) m
          rw [show n + (4 - n) = 4 by omega] at e
          rw [e, runFor_done ho]
        · have e := runFor_add 4 (n - 4) m
          rw [show 4 + (n - 4) = n by omega] at e
          rw [e, runFor_done h4]
      rw [this]; exact hq
    · rw [if_neg h4]
      have hn4 : 4 < n := by
        refine Nat.lt_of_not_le fun hle => h4 ?_
        have e := runFor_add n (4 - n) m
        rw [show n + (4 - n) = 4 by omega] at e
        rw [e, runFor_done ho]; exact ho
      have e := runFor_add 4 (n - 4) m
      rw [show 4 + (n - 4) = n by omega] at e
      refine wpAny_bind (wpAny_rule (ih _ (n - 4) (by omega) (by omega) ?_ ?_))
      · rw [← e]; exact ho
      · rw [← e]; exact hq
theorem wp_rules {Q : PUnit → Shared → Prop} (m : Sre.M) (f : Nat → PUnit → Sem (ForInStep PUnit)) (hf : ∀ i u, f i u = if m.seen.has i = true then (rule (Sre.names.getD i "") >>= fun _ => pure (.yield ⟨⟩)) else pure (.yield ⟨⟩)) (hq : Q ⟨⟩ s) : ∀ l : List Nat, wpAny (model prog w) A (forIn l ⟨⟩ f) Q E s := by
  intro l
  induction l with
  | nil => exact wpAny_pure hq
  | cons i r ih =>
    rw [List.forIn_cons]
    refine wpAny_bind ?_
    rw [hf]
    by_cases h : m.seen.has i = true
    · simp only [h, if_true]
      exact wpAny_bind (wpAny_rule (wpAny_pure ih))
    · simp only [h, if_false, Bool.false_eq_true]
      exact wpAny_pure ih
theorem wp_find {l : List Nat} {d : Nat} {Q : Option Sre.M → Shared → Prop} (hl : ∀ c ∈ l, c < 128) (hz : l.length ≤ sizeLine)
    (hyes : ∀ m q, d ≤ q → hit l q = true → (∀ j, d ≤ j → j < q → hit l j = false) → m.start = q → m.handed = q + 3 → m.lastindex = -1 → Q (some m) s)
    (hno : (∀ j, d ≤ j → hit l j = false) → Q none s) : wpAny (model prog w) A (Builtin.Re.reRunToEnd (Sre.forSearch rcode l.toArray 0 d l.length false)) Q E s := by
  obtain ⟨n, m, hn, e, r⟩ := search l hl d
  have hsz : sizeLine < 2 ^ 40 := by decide
  unfold Builtin.Re.reRunToEnd
  refine wpAny_bind (wp_drive (2 ^ 64) _ n (by omega) (by decide) ?_ ?_)
  · rw [e]
    rcases r with ⟨q, _, _, _, ho, _⟩ | ⟨_, ho⟩ <;> rw [ho] <;> rfl
  rw [e]
  refine wpAny_bind ?_
  refine wp_rules m _ (fun i u => ?_) ?_ _
  · by_cases h : m.seen.has i = true
    · simp only [h, if_true]
    · simp only [h, if_false, Bool.false_eq_true]
  rcases r with ⟨q, h1, h2, h3, ho, h4, h5, h6⟩ | ⟨h1, ho⟩
  · rw [ho]; exact wpAny_pure (hyes m q h1 h2 h3 h4 h5 h6)
  · rw [ho]; exact wpAny_pure (hno h1)
end
end Mine
end

-- R5
section
open PySem PySem.W PyProof.Rows PySem.Calls
set_option Elab.async false
set_option linter.unusedVariables false
set_option linter.unusedSimpArgs false
namespace Mine
theorem pat_at {w : World} {g : Heap} (B : Bs w g) : (∃ a0 a1, g.get? 43 = some { cls := .type "re.Pattern", data := .fields #[a0, a1, .int 0 0, .none, .none, .ref 42, .int 0 0] }) ∧
    g.get? 42 = some { cls := .type "tuple", data := .seq (rcode.map fun (c : Nat) => .int (c : Int) 0) } := by
  have hz : (fun (_ : PySem.W.OpenLaw × (Params → Frag)) => True) (PySem.Challenge.rw_of0070_01, Mine.hd.heap_39) := by (k_fill; trivial)
  refine ⟨⟨_, _, B.X 43 _ (by k_is)⟩, ?_⟩
  have e : rcode.map (fun (c : Nat) => Value.int (c : Int) 0) = #[Value.int 14 0, Value.int 8 0, Value.int 1 0, Value.int 3 0, Value.int 3 0, Value.int 1 0, Value.int 1 0,
            Value.int 61 0, Value.int 0 0, Value.int 16 0, Value.int 61 0, Value.int 24 0, Value.int 16 0,
            Value.int 2 0, Value.int 2 0, Value.int 13 0, Value.int 11 0, Value.int 9 0, Value.int 0 0,
            Value.int 67043328 0, Value.int 126 0, Value.int 126 0, Value.int 0 0, Value.int 0 0, Value.int 0 0,
            Value.int 0 0, Value.int 0 0, Value.int 1 0, Value.int 1 0] := by simp [rcode]
  rw [e]
  exact B.X 42 _ (by k_is)
section
variable {prog : Program} {w : World} {A : Around} {E : Value → Shared → Prop} {s : Shared}
noncomputable def tgt (l : List Nat) (t : Tok) : Builtin.Re.ReTarget := { pattern := .ref 43, string := .str (st l) t, code := rcode, text := l.toArray, kind := 0, groups := 0, pos := 0, lim := l.length }
theorem wp_target {l : List Nat} {t : Tok} {Q : Builtin.Re.ReTarget → Shared → Prop} (B : Bs w s.heap) (h : Q (tgt l t) s) : wpAny (model prog w) A (Builtin.Re.reWholeTarget (.ref 43) (.str (st l) t)) Q E s := by
  obtain ⟨⟨a0, a1, e1⟩, e2⟩ := pat_at B
  unfold Builtin.Re.reWholeTarget
  refine wpAny_bind (wpAny_fieldsOf e1 rfl ?_)
  refine wpAny_bind (wp_text0 ?_)
  dsimp only
  refine wpAny_bind (wpAny_pure ?_)
  refine wpAny_bind ?_
  refine wp_raw e2 rfl (wpAny_pure ?_)
  have e : (((rcode.map fun (c : Nat) => Value.int (c : Int) 0).map Builtin.Re.reRawOf).map (·.toNat)) = rcode := by
    simp [Builtin.Re.reRawOf, Function.comp_def]
  rw [e]
  exact h
theorem wp_newmatch {l : List Nat} {t : Tok} {m : Sre.M} {p q n : Nat} {Q : Value → Shared → Prop} (hp : m.start = p) (hq : m.handed = q) (h : ∀ a s', Kp s s' → IsMatch s'.heap a l p q → Q (.ref a) s') :
    wpAny (model prog w) A (Builtin.Re.reNewMatch (.ref 43) (.str (st l) t) 0 0 n m) Q E s := by
  subst hp hq
  unfold Builtin.Re.reNewMatch
  show wpAny _ _ (newTuple [rawInt m.start, rawInt m.handed] >>= fun v => newFields "re.Match" [.str (st l) t, .ref 43, rawInt (0 : Nat), rawInt n, rawInt m.lastindex, v]) _ _ _
  refine wpAny_bind (wpAny_newTuple ?_)
  refine wpAny_newObj_type ?_
  refine h _ _ ((Kp.push s _ s.toks).trans (Kp.push _ _ s.toks)) ⟨_, _, _, _, _, _, Heap.get?_push_size _ rfl, Heap.get?_push_of_some _ (Heap.get?_push_size _ rfl)⟩
end
end Mine
end

-- R6
section
open PySem PySem.W PyProof.Rows PySem.Calls
set_option Elab.async false
set_option linter.unusedVariables false
set_option linter.unusedSimpArgs false
namespace Mine
structure Pc (s0 : Shared) (D : Addr) (ps : List (List Nat)) (s : Shared) : Prop where
  near : ∃ h tk, s = { s0 with heap := h, toks := tk }
  keep : ∀ b o, s0.heap.get? b = some o → s.heap.get? b = some o
  new : s0.heap.get? D = none
  lst : ∃ vs : List Value, s.heap.PlainList D vs.toArray ∧ StrsAre vs (ps.map st)
theorem Pc.keeps {s0 s s' : Shared} {D : Addr} {ps : List (List Nat)} (P : Pc s0 D ps s) (k : Kp s s') : Pc s0 D ps s' := by
  refine ⟨?_, fun b o e => k.get b o (P.keep b o e), P.new, let ⟨vs, h, i⟩ := P.lst; ⟨vs, h.at fun o e => k.get _ o e, i⟩⟩
  obtain ⟨h, tk, rfl⟩ := P.near
  obtain ⟨h', tk', rfl⟩ := k.near
  exact ⟨h', tk', rfl⟩
theorem Pc.done {s0 s : Shared} {D : Addr} {ps : List (List Nat)} (P : Pc s0 D ps s) : Kp s0 s := ⟨P.near, P.keep⟩
section
variable {prog : Program} {w : World} {A : Around} {E : Value → Shared → Prop} {s s0 : Shared} {D : Addr} {ps : List (List Nat)}
theorem wp_push {x : List Nat} {t : Tok} {Q : Unit → Shared → Prop} (P : Pc s0 D ps s) (hz : ps.length ≤ 1000000) (h : ∀ s', Pc s0 D (ps ++ [x]) s' → Q () s') :
    wpAny (model prog w) A (updateSeq D (·.push (.str (st x) t))) Q E s := by
  obtain ⟨vs, ⟨n, e⟩, hi⟩ := P.lst
  have hlen : vs.length = ps.length := by rw [hi.length]; simp
  refine wpAny_updateSeq e rfl ?_ ?_
  · refine h _ ⟨?_, fun b o eb => ?_, P.new, vs ++ [.str (st x) t], ?_, ?_⟩
    · obtain ⟨h, tk, rfl⟩ := P.near
      exact ⟨_, tk, rfl⟩
    · refine (Heap.get?_update_other _ _ ?_).trans (P.keep b o eb)
      intro q; rw [← q, P.new] at eb; cases eb
    · obtain ⟨n', e'⟩ := Obj.data_mapSeq (o := { cls := .type "list", data := .seq vs.toArray n }) rfl (·.push (Value.str (st x) t))
      have := Heap.get?_update_self (Obj.mapSeq (·.push (Value.str (st x) t))) e rfl
      have e2 : Obj.mapSeq (·.push (Value.str (st x) t)) { cls := .type "list", data := .seq vs.toArray n } = { cls := .type "list", data := .seq (vs ++ [Value.str (st x) t]).toArray n' } := by
        have e3 : vs.toArray.push (Value.str (st x) t) = (vs ++ [Value.str (st x) t]).toArray := by simp
        rw [← e3, ← e']; rfl
      exact ⟨n', this.trans (congrArg some e2)⟩
    · rw [List.map_append]
      exact strs_snoc hi
  · simp only [List.size_toArray, hlen]
    have : 1000000 ≤ sizeLine := by decide
    omega
theorem flat_sum (ps : List (List Nat)) : ((ps.map st).map (·.length)).sum = ps.flatten.length := by
  induction ps with
  | nil => rfl
  | cons x r ih => simp only [List.map_cons, List.sum_cons, ih, List.flatten_cons, List.length_append, st_len]
theorem sub_fin {l : List Nat} {Q : Fin → Shared → Prop} (P : Pc s0 D ps s) (hz : l.length ≤ 1300) (hf : ps.flatten.length ≤ 10000) (h : ∀ t s', Kp s0 s' → Q (.done (.ret (.str (st ps.flatten) t))) s') :
    wpAny (model prog w) A (do
      let joiner ← Builtin.Re.reSlice l.toArray 0 0 0
      let x ← seqItems? (Value.ref D)
      if (x.getD #[]).isEmpty = true then ret joiner else do
        let text ← call (.builtin "str.join") [joiner, .ref D]
        ret text) Q E s := by
  have hs : 1300 ≤ sizeLine := by decide
  refine wpAny_bind (wp_slice (Nat.le_trans hz hs) ?_)
  intro t1 s1 k1
  have e0 : (l.drop 0).take (0 - 0) = [] := by simp
  rw [e0]
  replace P := P.keeps k1
  obtain ⟨vs, ⟨n, e⟩, hi⟩ := P.lst
  refine wpAny_bind (wpAny_seqItems e rfl ?_)
  show wpAny _ _ (if vs.toArray.isEmpty = true then _ else _) _ _ _
  by_cases hv : vs.toArray.isEmpty = true
  · rw [if_pos hv]
    have hv0 : vs = [] := by simpa using hv
    subst hv0
    have hp0 : ps = [] := by
      have := hi.length
      simpa using this.symm
    subst hp0
    exact wpAny_pure (h _ _ P.done)
  · rw [if_neg hv]
    refine wpAny_bind (join_list (ys := ps.map st) (Heap.PlainList.isList ⟨n, e⟩) hi ?_ ?_)
    · rw [flat_sum, st_len]; simp only [List.length_nil, Nat.mul_zero]; omega
    · intro t' k
      rw [join_st]
      exact wpAny_pure (h _ _ (P.done.trans (Kp.tok _ _)))
noncomputable def largs (l : List Nat) (t : Tok) (n d : Nat) (D : Addr) : Args := ⟨[.ref 43, .str (st l) t, .ref 65, rawInt 1, rawInt 0, rawInt n, rawInt d, rawInt d, .bool false, .ref D, .bool false], []⟩
theorem sub_loop {l : List Nat} {t : Tok} (hl : ∀ c ∈ l, c < 128) (hz : l.length ≤ 1300) (Rm : Room A.in1 3 20) (B : Bs w s0.heap) {R : Result → Shared → Prop} :
    ∀ k d n ps s, l.length - d = k → d ≤ l.length → Pc s0 D ps s → ps.length ≤ 2 * d → ps.flatten.length ≤ d → (∀ t s', Kp s0 s' → R (.ok (.ret (.str (st (ps.flatten ++ scan (l.drop d))) t))) s') →
      codeAny (model prog w) A (.builtin "re.Pattern.sub.loop" (largs l t n d D)) R s := by
  have hsz : 1300 ≤ sizeLine := by decide
  intro k
  induction k using Nat.strongRecOn with
  | _ k ih =>
    intro d n ps s hk hd P hps hpf hR
    refine codeAny_builtin entry_subloop ?_
    rw [Around.under_plainId plain_subloop _]
    unfold Builtin.«re.Pattern.sub.loop» largs
    dsimp only [rawInt]
    refine wpAny_bind (wp_target (B.keeps P.keep) ?_)
    show wpAny _ _ (Builtin.Re.reRunToEnd (Sre.forSearch rcode l.toArray 0 (d : Int).toNat l.length false) >>= _) _ _ _
    rw [Int.toNat_natCast]
    refine wpAny_bind (wp_find hl (Nat.le_trans hz hsz) ?_ ?_)
    · intro m q hdq hh hm hst hha hli
      have hq := hit_lt hh
      have go : ∀ ps' s, Pc s0 D ps' s → ps'.length ≤ 2 * d + 1 → ps'.flatten = ps.flatten ++ (l.drop d).take (q - d) →
          wpAny (model prog w) A.in1 (do
            let found ← Builtin.Re.reNewMatch (Value.ref 43) (Value.str (st l) t) 0 0 l.length m
            let item ← holding [found] (call (Value.ref 65) [found])
            if (item != Value.none) = true then do
              updateSeq D fun x => x.push item
              again (Code.builtin "re.Pattern.sub.loop" { pos := [Value.ref 43, Value.str (st l) t, Value.ref 65, Value.int 1 0, Value.int 0 0, Value.int (↑n + 1) 0, Value.int (↑m.handed) 0, Value.int (↑m.handed) 0, Value.bool (m.handed == m.start), Value.ref D, Value.bool false] })
            else again (Code.builtin "re.Pattern.sub.loop" { pos := [Value.ref 43, Value.str (st l) t, Value.ref 65, Value.int 1 0, Value.int 0 0, Value.int (↑n + 1) 0, Value.int (↑m.handed) 0, Value.int (↑m.handed) 0, Value.bool (m.handed == m.start), Value.ref D, Value.bool false] }))
            (fun fin s' => match fin with | .done f => R (.ok f) s' | .again c' => c'.quiet = true ∧ codeAny (model prog w) A c' R s') (fun e s' => R (.error e) s') s := by
        intro ps' s1 P1 hl1 hf1
        refine wpAny_bind (wp_newmatch hst hha ?_)
        intro a s2 k2 hM
        replace P1 := P1.keeps k2
        have hh' := hh
        unfold hit at hh'
        simp only [Bool.and_eq_true, beq_iff_eq] at hh'
        refine wpAny_bind (wpAny_holding (wpAny_mono (umatch_spec Rm (B.keeps P1.keep) hM (Nat.le_trans hz hsz) (hit_take hh) hh'.1.2 hh'.2) (fun v s3 h3 => ?_) fun _ _ y => y))
        obtain ⟨k3, t3, rfl⟩ := h3
        replace P1 := P1.keeps k3
        show wpAny _ _ (updateSeq D (fun x => x.push _) >>= fun _ => again _) _ _ _
        refine wpAny_bind (wp_push P1 (by omega) ?_)
        intro s4 P4
        have e1 : (m.handed == m.start) = false := by rw [hst, hha]; simp
        rw [e1, hha]
        refine wpAny_pure ⟨plainId_quiet plain_subloop _, ?_⟩
        refine ih (l.length - (q + 3)) (hk ▸ Nat.sub_lt_sub_left (Nat.lt_of_le_of_lt (Nat.le_trans hdq (Nat.le_add_right q 2)) hq) (Nat.lt_of_le_of_lt hdq (Nat.lt_add_of_pos_right (by decide)))) (q + 3) (n + 1) _ s4 rfl (by omega) P4 ?_ ?_ ?_
        · simp only [List.length_append, List.length_singleton]; omega
        · rw [List.flatten_append, hf1, List.length_append, List.length_append, List.length_take]; exact Nat.le_trans (Nat.add_le_add_right (Nat.add_le_add hpf (Nat.min_le_left _ _)) 1) (by rw [Nat.add_sub_cancel' hdq]; exact Nat.add_le_add_left (by decide) q)
        · intro t5 s5 k5
          have := hR t5 s5 k5
          rw [scan_to hdq (by omega) hm, scan_hit hh] at this
          simpa [hf1] using this
      by_cases hlt : d < m.start
      · show wpAny _ _ (if (d : Int).toNat < m.start then _ else _) _ _ _
        rw [Int.toNat_natCast, if_pos hlt]
        refine wpAny_bind (wp_slice (Nat.le_trans hz hsz) ?_)
        intro t1 s1 k1
        refine wpAny_bind (wp_push (P.keeps k1) (by omega) ?_)
        intro s2 P2
        refine go _ s2 P2 (by simp only [List.length_append, List.length_singleton]; omega) ?_
        rw [hst]; simp
      · show wpAny _ _ (if (d : Int).toNat < m.start then _ else _) _ _ _
        rw [Int.toNat_natCast, if_neg hlt]
        refine go _ s P (by omega) ?_
        have : q - d = 0 := Nat.sub_eq_zero_of_le (Nat.le_of_not_lt (hst ▸ hlt))
        rw [this]; simp
    · intro hno
      have e := scan_none hd hno
      by_cases hlt : d < l.length
      · show wpAny _ _ (if (d : Int).toNat < l.length then _ else _) _ _ _
        rw [Int.toNat_natCast, if_pos hlt]
        refine wpAny_bind (wp_slice (Nat.le_trans hz hsz) ?_)
        intro t1 s1 k1
        refine wpAny_bind (wp_push (P.keeps k1) (by omega) ?_)
        intro s2 P2
        refine sub_fin (l := l) P2 hz ?_ ?_
        · rw [List.flatten_append, List.length_append]; simp only [List.flatten_cons, List.flatten_nil, List.append_nil, List.length_take, List.length_drop]; exact Nat.le_trans (Nat.add_le_add hpf (Nat.min_le_right _ _)) (by rw [Nat.add_sub_cancel' hd]; exact Nat.le_trans hz (by decide))
        · intro t3 s3 k3
          have := hR t3 s3 k3
          rw [e] at this
          have e2 : (l.drop d).take (l.length - d) = l.drop d := List.take_of_length_le (by simp)
          simpa [tgt, e2] using this
      · show wpAny _ _ (if (d : Int).toNat < l.length then _ else _) _ _ _
        rw [Int.toNat_natCast, if_neg hlt]
        refine sub_fin (l := l) P hz ?_ ?_
        · omega
        · intro t3 s3 k3
          have := hR t3 s3 k3
          rw [e] at this
          have e2 : l.drop d = [] := by simp; omega
          simpa [e2] using this
end
end Mine
end

-- R7
section
open PySem PySem.W PyProof.Rows PySem.Calls
set_option Elab.async false
set_option linter.unusedVariables false
set_option linter.unusedSimpArgs false
namespace Mine
open Builtin Builtin.Str in
theorem occ_none {l : List Nat} {c n : Nat} (h : c ∉ l) : occurrences (st l) ⟨#[c]⟩ 0 (st l).length n = [] := by
  obtain ⟨f, hf⟩ := StrLaws.occ_chain (st l) ⟨#[c]⟩ n
  cases ho : occurrences (st l) ⟨#[c]⟩ 0 (st l).length n with
  | nil => rfl
  | cons i r =>
    rw [ho] at hf
    have hm := (StrLaws.subAt_one (st l) c i).mp hf.2.1
    have : c ∈ (st l).cps.toList := List.mem_of_getElem? hm
    exact absurd (by simpa [st] using this) h
section
variable {prog : Program} {w : World} {A : Around} {E : Value → Shared → Prop} {s : Shared}
theorem repl_none {l : List Nat} {c : Nat} {z : Str} {t u v : Tok} {Q : Value → Shared → Prop} (h : c ∉ l) (hq : Q (.str (st l) t) s) :
    wpAny (model prog w) A (call (.builtin "str.replace") [.str (st l) t, .str ⟨#[c]⟩ u, .str z v]) Q E s := by
  have he : ((Builtin.Str.occurrences (st l) ⟨#[c]⟩ 0 (st l).length ((st l).length + 1)).isEmpty || ((⟨#[c]⟩ : Str).length == 0 && z.length == 0)) = true := by rw [occ_none h]; rfl
  refine call_meets F.slot_str_replace (typeIs_str _ _ _) F.entry_str_replace (F.args_str_replace_3 _ _ _) (gives_str_replace (st l) ⟨#[c]⟩ z t u v (fun hf => by rw [he] at hf; cases hf)).meets ?_
  rw [he]
  exact hq
theorem look_call : typeLookup (.type "function") (Str.ofString "__call__") = pure (some (.builtin "function.__call__")) := by rw [typeLookup_type, builtinLookup_eq_fast]; kernel_rfl
theorem not_ba : isSubtype (.type "str") (.type "bytearray") = pure false := by rw [isSubtype_type]; kernel_rfl
theorem fn65 {w : World} {g : Heap} (B : Bs w g) : ∃ o, g.get? 65 = some o ∧ o.cls = .type "function" := by
  have hz : (fun (_ : PySem.W.OpenLaw × (Params → Frag)) => True) (PySem.Challenge.rw_of0070_01, Mine.hd.heap_39) := by (k_fill; trivial)
  exact ⟨_, B.X 65 _ (by k_is), rfl⟩
theorem call_sub {l : List Nat} {t : Tok} {Q : Value → Shared → Prop} (Rm : Room A 3 21) (B : Bs w s.heap) (hl : ∀ c ∈ l, c < 128) (hz : l.length ≤ 1300) (h : ∀ t s', Kp s s' → Q (.str (st (scan l)) t) s') :
    wpAny (model prog w) A (call (.builtin "re.Pattern.sub") [.ref 43, .ref 65, .str (st l) t]) Q E s := by
  obtain ⟨⟨a0, a1, e1⟩, e2⟩ := pat_at B
  obtain ⟨fo, ef, hf⟩ := fn65 B
  refine wpAny_call (codeAny_call_builtin plain_sub entry_sub (slot_sub.check _ _ _ _ _ _ _ _ ⟨_, e1, rfl⟩ (args_sub _ _ _) ?_))
  unfold Builtin.«re.Pattern.sub» Builtin.Re.reSubstitute
  dsimp only
  refine wpAny_bind (wpAny_of_eq (a := [some (.ref 65), some (.str (st l) t), none]) rfl ?_)
  dsimp only
  refine wpAny_bind (wpAny_pure ?_)
  refine wpAny_bind (wpAny_specialOf (T := "function") ⟨_, ef, hf⟩ look_call ?_)
  refine wpAny_bind (wpAny_pure ?_)
  refine wpAny_bind (wpAny_pure ?_)
  dsimp only
  refine wpAny_bind (wpAny_holding (wp_target B ?_))
  refine wpAny_bind ?_
  unfold Builtin.Re.reNotHeld
  refine wpAny_bind (wpAny_isInstance (T := "str") (typeIs_str _ _ _) not_ba ?_)
  refine wpAny_pure ?_
  refine wpAny_bind (wpAny_newList ?_)
  refine wpAny_pure ⟨plainId_quiet plain_subloop _, ?_⟩
  refine sub_loop (s0 := s) (l := l) (t := t) hl hz (Rm.in1 (by omega)) B (l.length) 0 0 [] _ (by omega) (by omega) ⟨⟨_, s.toks, rfl⟩, fun b o e => Heap.get?_push_of_some _ e, fresh_size _ (Nat.le_refl _), [], ⟨0, Heap.get?_push_size _ rfl⟩, .nil⟩ (by simp) (by simp) ?_
  intro t' s' k
  exact h t' s' k
end
end Mine
end

-- HD1
section
open PySem PySem.W PyProof.Rows PySem.Calls
set_option Elab.async false
set_option linter.unusedVariables false
set_option linter.unusedSimpArgs false
namespace Mine
theorem gm_sub {prog : Program} {w : World} {A : Around} {E : Value → Shared → Prop} {s : Shared} {pl : Sem Bool} {Q : Value × List Value → Shared → Prop} (B : Bs w s.heap) (h : Q (.builtin "re.Pattern.sub", [.ref 43]) s) :
    wpAny (model prog w) A (getMethod (.ref 43) (Str.ofString "sub") pl) Q E s := by
  obtain ⟨⟨a0, a1, e1⟩, e2⟩ := pat_at B
  exact getMethod_builtin ⟨_, e1, rfl⟩ pa_pat slot_sub type_sub (fun b e => by cases e; exact ⟨_, e1, rfl⟩) h
theorem header_spec {prog : Program} {w : World} {A : Around} {E : Value → Shared → Prop} {s : Shared} {l : List Nat} {t : Tok} (Rm : Room A 5 40) (B : Bs w s.heap) (hl : ∀ c ∈ l, c < 128 ∧ c ≠ 95) (hz0 : l.length ≤ 1300) :
    wpAny (model prog w) A (call (.ref 72) [.str (st l) t]) (fun v s' => Kp s s' ∧ ∃ t', v = .str (st (scan l)) t') E s := by
  have hz : (fun (_ : PySem.W.OpenLaw × (Params → Frag)) => True) (PySem.Challenge.rw_of0070_01, Mine.hd.heap_39) := by (k_fill; trivial)
  refine wpAny_call (enterR B Rm.low (by k_is) (by k_is) (BindsTo.of_eq rfl) (locs rfl) ?_)
  intro s' A1 DA H
  replace Rm := Rm.deep DA (d' := 4) (u' := 37) (by decide) (by decide)
  generalize s.heap.objs.size = L at H ⊢
  replace H : St s.heap L [(Str.ofString "s", .str (st l) t)] [] s s' := H
  with_reducible refine x_assign ?_ (by kernel_rfl)
  with_reducible refine m_call ?_
  refine n_loc H.ns rfl ?_
  with_reducible refine GM.replace ?_
  with_reducible refine cw1 ?_
  with_reducible refine i_cons ?_
  with_reducible refine k_str ?_
  intro t1 s1 k1
  with_reducible refine i_cons ?_
  with_reducible refine k_str ?_
  intro t2 s2 k2
  with_reducible refine i_nil ?_
  replace H := (H.keeps k1).keeps k2
  refine repl_none (c := 95) (fun h => (hl 95 h).2 rfl) ?_
  refine s_loc H ?_
  intro s3 H
  with_reducible refine x_ret ?_
  with_reducible refine m_call ?_
  refine n_glob (v := .ref 43) (H.bs B) (by k_is) ?_
  refine gm_sub (H.bs B) ?_
  with_reducible refine cw1 ?_
  with_reducible refine i_cons ?_
  refine n_glob (v := .ref 65) (H.bs B) (by k_is) ?_
  with_reducible refine i_cons ?_
  refine n_loc H.ns rfl ?_
  with_reducible refine i_nil ?_
  refine call_sub (Rm.le (by decide) (by decide)) (H.bs B) (fun c hc => (hl c hc).1) hz0 ?_
  intro t4 s4 k4
  exact ⟨H.done.trans k4, _, rfl⟩
end Mine
end

-- D1
section
open PySem PySem.W PyProof.Rows PySem.Calls
set_option Elab.async false
set_option linter.unusedVariables false
set_option linter.unusedSimpArgs false
namespace Mine
open Builtin Builtin.Str
theorem no_break : ∀ c < 127, 33 ≤ c → Unicode.isLineBreak c = false ∧ Unicode.isSpace c = false := by decide +kernel
noncomputable def Vis (l : List Nat) : Prop := ∀ c ∈ l, 33 ≤ c ∧ c < 127
theorem Vis.getD {l : List Nat} (h : Vis l) {i : Nat} (hi : i < l.length) : 33 ≤ l.getD i 0 ∧ l.getD i 0 < 127 := by
  rw [List.getD_eq_getElem?_getD, List.getElem?_eq_getElem hi]
  exact h _ (List.getElem_mem hi)
theorem ls_none {l : List Nat} (h : Vis l) : ∀ (m cur : Nat) (x : StrLaws.LsSt), cur + m ≤ l.length → Id.run (forIn (m := Id) (List.range' cur m) x (StrLaws.lsBody (st l))) = x
  | 0, cur, x, _ => rfl
  | m + 1, cur, x, hm => by
    rw [List.range'_succ, List.forIn_cons]
    have hg : (st l).cps.getD cur 0 = l.getD cur 0 := by simp [st]
    have hv := h.getD (i := cur) (by omega)
    have hb := (no_break _ hv.2 hv.1).1
    have e : StrLaws.lsBody (st l) cur x = pure (ForInStep.yield x) := by
      unfold StrLaws.lsBody
      rw [hg, hb, Bool.and_false, if_neg Bool.false_ne_true]
    rw [e]
    exact ls_none h m (cur + 1) x (by omega)
theorem cuts1 {l : List Nat} (h : Vis l) (hn : l ≠ []) : lineCuts (st l) = [(0, l.length)] := by
  unfold lineCuts
  rw [StrLaws.ls_eq, ls_none h (st l).length 0 _ (by rw [st_len]; omega)]
  unfold StrLaws.lsEnd
  have : 0 < l.length := List.length_pos_iff.mpr hn
  simp only [st_len, this, if_true]
  rfl
theorem rstrip_vis {l : List Nat} (h : Vis l) : Txt.rstrip (st l) = st l := by
  unfold Txt.rstrip Txt.stripBy
  have : stripSame Unicode.isSpace false true (st l) = true := by
    unfold stripSame stripLo stripHi
    have e : ((st l).cps.toList.drop 0).reverse.takeWhile Unicode.isSpace = [] := by
      have : ((st l).cps.toList.drop 0).reverse = l.reverse := by simp [st]
      rw [this]
      cases hr : l.reverse with
      | nil => rfl
      | cons c r =>
        have hc : c ∈ l := by rw [← List.mem_reverse, hr]; simp
        have := (no_break c (h c hc).2 (h c hc).1).2
        simp [List.takeWhile, this]
    simp only [Bool.false_eq_true, if_false, if_true, e]
    simp
  rw [this]; rfl
theorem hexd : ∀ c < 128, decide (c ∈ (Str.ofString "0123456789abcdefABCDEF").cps.toList) = hexb c := by decide +kernel
section
variable {prog : Program} {w : World} {A : Around} {E : Value → Shared → Prop} {s : Shared} {env : Env}
theorem in_hex {c : Nat} {t u : Tok} {Q : Value → Shared → Prop} (hc : c < 128) (h : Q (.bool (hexb c)) s) : wpAny (model prog w) A (compareOp .In (.str (st [c]) t) (.str (Str.ofString "0123456789abcdefABCDEF") u)) Q E s := by
  refine P.in_str ?_
  have : st [c] = (⟨#[c]⟩ : Str) := rfl
  rw [this, StrLaws.found_one, hexd c hc]
  exact h
theorem notin_s {c : Nat} {x : Str} {t u : Tok} {Q : Value → Shared → Prop} (hc : c ∉ x.cps.toList) (h : Q (.bool true) s) : wpAny (model prog w) A (compareOp .NotIn (.str (st [c]) t) (.str x u)) Q E s := by
  refine P.notIn_str ?_
  have : st [c] = (⟨#[c]⟩ : Str) := rfl
  rw [this, StrLaws.found_one]
  simpa [hc] using h
theorem call_lines {l : List Nat} {t : Tok} {Q : Value → Shared → Prop} (h : Vis l) (hn : l ≠ []) (hz : l.length ≤ 1000000) (hq : ∀ D s', s.heap.get? D = none → Kp s s' → s'.heap.PlainList D [Value.str (st l) t].toArray → Q (.ref D) s') :
    wpAny (model prog w) A (call (.builtin "str.splitlines") [.str (st l) t]) Q E s := by
  have hsz : 1000000 ≤ sizeLine := by decide
  have e := cuts1 h hn
  refine call_meets F.slot_str_splitlines (typeIs_str _ _ _) F.entry_str_splitlines (F.args_str_splitlines_1 _) (meets_str_splitlines (st l) t (by rw [st_len]; omega) (by rw [e]; simp; omega)) ?_
  have e2 : (lineCuts (st l) == [(0, (st l).length)]) = true := by rw [e, st_len]; simp
  rw [if_pos e2]
  exact hq _ _ (fresh_size _ (Nat.le_refl _)) (Kp.push _ _ s.toks) ⟨_, Heap.get?_push_size _ rfl⟩
theorem call_rstrip {l : List Nat} {t : Tok} {Q : Value → Shared → Prop} (h : Vis l) (hz : l.length ≤ 1000000) (hq : ∀ t s', Kp s s' → Q (.str (st l) t) s') :
    wpAny (model prog w) A (call (.builtin "str.rstrip") [.str (st l) t]) Q E s := by
  have hsz : 1000000 ≤ sizeLine := by decide
  refine SC.rstrip ?_ (by rw [st_len]; omega)
  intro t' k
  rw [rstrip_vis h]
  exact hq _ _ (Kp.tok _ _)
theorem tru_s {l : List Nat} {t : Tok} {Q : Bool → Shared → Prop} (hz : l.length ≤ 1000000) (h : ∀ s', Kp s s' → Q (!l.isEmpty) s') : wpAny (model prog w) A (truthy (.str (st l) t)) Q E s := by
  refine P.truthy_str (by rw [st_len]; omega) ?_
  have : (((st l).length : Int) != 0) = !l.isEmpty := by rw [st_len]; cases l <;> simp; omega
  rw [this]; exact h _ (Kp.tok _ _)
theorem len_s {l : List Nat} {t : Tok} {Q : Value → Shared → Prop} (hz : l.length ≤ 1000000) (h : ∀ t s', Kp s s' → Q (.int l.length t) s') : wpAny (model prog w) A (call (.builtin "len") [.str (st l) t]) Q E s := by
  refine P.len_str (by rw [st_len]; omega) ?_
  rw [st_len]; exact h _ _ (Kp.tok _ _)
theorem iadd_s {a b : List Nat} {t u : Tok} {Q : Value → Shared → Prop} (hz : a.length + b.length ≤ 1000000) (h : ∀ t s', Kp s s' → Q (.str (st (a ++ b)) t) s') : wpAny (model prog w) A (inplaceOp .Add (.str (st a) t) (.str (st b) u)) Q E s := by
  have hsz : 1000000 ≤ sizeLine := by decide
  refine PyProof.Rows.iadd_str ?_ (by rw [st_len, st_len]; omega)
  intro t' tk
  rw [st_append]; exact h _ _ (Kp.tok _ _)
theorem ne_s {a b : List Nat} {t u : Tok} {Q : Value → Shared → Prop} (h : Q (.bool (a != b)) s) : wpAny (model prog w) A (compareOp .NotEq (.str (st a) t) (.str (st b) u)) Q E s := by
  refine P.ne_str ?_
  simpa [st] using h
theorem t_name {x : Str} {p : Pos} {whole : Sem Value} {Q : Bool → Shared → Prop} (h : wpAny (model prog w) A whole (fun v s₁ => wpAny (model prog w) A (truthy v) Q E s₁) E s) : wpAny (model prog w) A (isTrue (.Name x p) env whole) Q E s := wpAny_isTrue_value h rfl
theorem t_call {f : Expr} {a : List Expr} {k : List Keyword} {p : Pos} {whole : Sem Value} {Q : Bool → Shared → Prop} (h : wpAny (model prog w) A whole (fun v s₁ => wpAny (model prog w) A (truthy v) Q E s₁) E s) : wpAny (model prog w) A (isTrue (.Call f a k p) env whole) Q E s := wpAny_isTrue_value h rfl
theorem t_not {x : Expr} {pos : Pos} {whole : Sem Value} {Q : Bool → Shared → Prop} (h : wpAny (model prog w) A (isTrue x env (eval x env)) (fun b s₁ => Q (!b) s₁) E s) : wpAny (model prog w) A (isTrue (.UnaryOp .Not x pos) env whole) Q E s := wpAny_isTrue_Not h
theorem t_and3 {x y z : Expr} {pos : Pos} {whole : Sem Value} {Q : Bool → Shared → Prop}
    (h : wpAny (model prog w) A (isTrue x env (eval x env)) (fun b s₁ => if b = true then wpAny (model prog w) A (isTrue y env (eval y env)) (fun b s₂ => if b = true then wpAny (model prog w) A (isTrue z env (eval z env)) Q E s₂ else Q false s₂) E s₁ else Q false s₁) E s) :
    wpAny (model prog w) A (isTrue (.BoolOp .And [x, y, z] pos) env whole) Q E s := by
  refine wpAny_isTrue_BoolOp (wpAny_allTrue_And_cons (wpAny_mono h (fun b s₁ h₁ => ?_) fun _ _ z => z))
  cases b with
  | false => exact h₁
  | true =>
    refine wpAny_allTrue_And_cons (wpAny_mono h₁ (fun b s₁ h₁ => ?_) fun _ _ z => z)
    cases b with
    | false => exact h₁
    | true =>
      refine wpAny_allTrue_And_cons (wpAny_mono h₁ (fun b s₁ h₁ => ?_) fun _ _ z => z)
      cases b with
      | false => exact h₁
      | true => exact wpAny_allTrue_And_nil h₁
end
end Mine
end

-- D2
section
open PySem PySem.W PyProof.Rows PySem.Calls
set_option Elab.async false
set_option linter.unusedVariables false
set_option linter.unusedSimpArgs false
namespace Mine
structure Lk (l : List Nat) (t te tl tn : Tok) (m : List (Str × Value)) (i : Nat) (dec : List Nat) : Prop where
  eo : m.lookup (Str.ofString "eol") = some (.str (Str.ofString "\n") te)
  en : m.lookup (Str.ofString "encoded") = some (.str (st l) t)
  ln : m.lookup (Str.ofString "line") = some (.str (st l) tl)
  nn : m.lookup (Str.ofString "n") = some (.int (l.length : Int) tn)
  ii : ∃ ti, m.lookup (Str.ofString "i") = some (.int (i : Int) ti)
  oo : ∃ td, m.lookup (Str.ofString "decoded") = some (.str (st dec) td)
theorem scan_len (l : List Nat) : (scan l).length ≤ l.length := by
  induction h : l.length using Nat.strongRecOn generalizing l with
  | _ n ih =>
    subst h
    cases l with
    | nil => rw [scan_nil]; simp
    | cons c r =>
      rw [scan_cons]
      split
      · have := ih (r.drop 2).length (by simp; omega) (r.drop 2) rfl
        simp at this ⊢; omega
      · have := ih r.length (by simp) r rfl
        simpa using this
section
variable {prog : Program} {w : World} {A : Around} {E : Value → Shared → Prop} {s : Shared} {env : Env}
theorem ends_one (a : List Nat) (c : Nat) : Txt.endswith (st (a ++ [c])) (st [c]) = true := by
  unfold Txt.endswith
  have h := (StrLaws.subAt_one (st (a ++ [c])) c a.length).mpr (by simp [st])
  have e1 : (st (a ++ [c])).length = a.length + 1 := by rw [st_len]; simp
  have e2 : (st [c]).length = 1 := rfl
  rw [e1, e2]
  have e3 : a.length + 1 - 1 = a.length := by omega
  rw [e3]
  have : st [c] = (⟨#[c]⟩ : Str) := rfl
  rw [this, h.2]
  simp
theorem made_but {a : List Nat} {c : Nat} {t tj : Tok} {Q : Value → Shared → Prop} (hz : a.length ≤ 1000000) (h : ∀ t s', Kp s s' → Q (.str (st a) t) s') :
    (sliceMade (st (a ++ [c])) t none (some (-1, tj)) none).post Q s := by
  have hsz : 1000000 ≤ sizeLine := by decide
  have el : (st (a ++ [c])).length = a.length + 1 := by rw [st_len]; simp
  have ei : slicePicked (st (a ++ [c])) none (some (-1, tj)) none = Builtin.Str.strSliceIndices (some ((0 : Nat) : Int)) (some ((a.length : Nat) : Int)) 1 (st (a ++ [c])).length := by
    show Builtin.Str.strSliceIndices none (some (-1)) 1 (st (a ++ [c])).length = _
    rw [StrLaws.sliceIdx_neg_hi none (st (a ++ [c])).length (by decide) (by rw [el]; omega), StrLaws.sliceIdx_none_lo, el]
    congr 2
    omega
  have ep : (slicePicked (st (a ++ [c])) none (some (-1, tj)) none).filterMap ((st (a ++ [c])).cps[·]?) = a := by
    rw [ei, StrLaws.sliced_plain (st (a ++ [c])) (Nat.zero_le _) (by rw [el]; omega)]
    simp [st]
  have en : (slicePicked (st (a ++ [c])) none (some (-1, tj)) none).length = a.length := by
    rw [ei, StrLaws.strSliceIndices_plain (Nat.zero_le _) (by rw [el]; omega)]; simp
  unfold sliceMade
  rw [if_neg]
  · rw [ep]
    exact ⟨by show (List.toArray a).size ≤ _; simp; omega, h _ _ (Kp.tok _ _)⟩
  · rw [en, el]; simp
theorem e_sitemN {value slice : Expr} {pos : Pos} {Q : Value → Shared → Prop}
    (h : wpAny (model prog w) A (eval value env) (fun o s₁ => wpAny (model prog w) A (eval slice env) (fun i s₂ => ∃ x t u, o = .str x t ∧ i = .int (-1) u ∧ ∃ c, Txt.charAt x (-1) = some c ∧ ∀ t' s', Kp s₂ s' → Q (.str (st [c]) t') s') E s₁) E s)
    (hs : ∀ x t k u, subscripted slice false (.str x t) (.int k u) = operate [.str x t, .int k u] (getItem (.str x t) (.int k u)) := by intro _ _ _ _; with_unfolding_all rfl) :
    wpAny (model prog w) A (eval (.Subscript value slice pos) env) Q E s := by
  refine Subscript_ (wpAny_mono h (fun o s₁ h₁ => wpAny_mono h₁ (fun i s₂ h₂ => ?_) fun _ _ y => y) fun _ _ y => y)
  obtain ⟨x, t, u, rfl, rfl, c, hx, hq⟩ := h₂
  refine tail_any (typeIs_str _ _ _) F.slot_str_getitem.lookup (SB.getItem ?_ ?_ ?_) (hs _ _ _ _)
  · unfold fitsSsize; decide
  · rw [hx]; rfl
  · have : Txt.item x (-1) = st [c] := by unfold Txt.item; rw [hx]; rfl
    rw [this]; exact hq _ _ (Kp.tok _ _)
theorem char_last {l : List Nat} (h : 0 < l.length) : Txt.charAt (st l) (-1) = some (l.getD (l.length - 1) 0) := by
  unfold Txt.charAt seqIndex?
  have e : (st l).length = l.length := st_len l
  rw [e]
  have h1 : (-1 : Int) < 0 := by decide
  have h2 : (0 : Int) ≤ -1 + (l.length : Int) := by omega
  have h3 : (-1 : Int) + (l.length : Int) < (l.length : Int) := by omega
  have h4 : (-1 + (l.length : Int)).toNat = l.length - 1 := by rw [Int.add_comm]; exact Int.toNat_sub l.length 1
  simp only [h1, if_true, h2, h3, and_self, h4]
  simp [st, List.getD_eq_getElem?_getD, List.getElem?_eq_getElem (show l.length - 1 < l.length by omega)]
end
theorem dot_in : 46 ∉ (Str.ofString "\r\n").cps.toList := by decide +kernel
theorem boot_len : bootBuiltins (Str.ofString "len") = some (.builtin "len") := by kernel_rfl
set_option maxHeartbeats 4000000 in
theorem decode_spec {prog : Program} {w : World} {A : Around} {E : Value → Shared → Prop} {s : Shared} {l : List Nat} {t : Tok} (Rm : Room A 5 40) (B : Bs w s.heap) (hv : Vis l) (hlast : l = [] ∨ l.getD (l.length - 1) 0 = 46) (hz0 : l.length ≤ 1300) :
    wpAny (model prog w) A (call (.ref 58) [.str (st l) t]) (fun v s' => Kp s s' ∧ ∃ t', v = .str (st (scan l)) t') E s := by
  have hz : (fun (_ : PySem.W.OpenLaw × (Params → Frag)) => True) (PySem.Challenge.rw_of0070_01, Mine.hd.heap_39) := by (k_fill; trivial)
  refine opqQ fun Q hQ => ?_
  refine wpAny_call (enterR B Rm.low (by k_is) (by k_is) (binds_K B.X rfl (by k_is) rfl rfl rfl) (locs rfl) ?_)
  intro s' A1 DA H
  replace Rm := Rm.deep DA (d' := 4) (u' := 37) (by decide) (by decide)
  generalize s.heap.objs.size = L at H ⊢
  obtain ⟨te, H⟩ : ∃ te, St s.heap L [(Str.ofString "eol", .str (Str.ofString "\n") te), (Str.ofString "encoded", .str (st l) t)] [] s s' := ⟨_, H⟩
  -- if not encoded
  with_reducible refine x_if ?_
  refine t_not (t_name ?_)
  refine n_loc H.ns rfl ?_
  refine tru_s (by omega) ?_
  intro s1 k1
  replace H := H.keeps k1
  by_cases hl : l = []
  · subst hl
    simp only [List.isEmpty_nil, Bool.not_true, Bool.not_false, if_true]
    with_reducible refine x_ret ?_
    refine n_loc H.ns rfl ?_
    refine hQ _ _ ⟨H.done, t, ?_⟩
    rw [scan_nil]
  have hl1 : (!(!l.isEmpty)) = false := by cases l <;> simp_all
  refine ite_f hl1 ?_
  replace hlast : l.getD (l.length - 1) 0 = 46 := by rcases hlast with h | h; exact absurd h hl; exact h
  have hpos : 0 < l.length := List.length_pos_iff.mpr hl
  refine wpAny_execs_nil ?_
  -- decoded = ''
  with_reducible refine x_assign ?_ (by kernel_rfl)
  with_reducible refine k_str ?_
  intro t2 s2 k2
  replace H := H.keeps k2
  refine s_loc H ?_
  intro s3 H
  -- for line in encoded.splitlines()
  refine x_forGK (n := 1) (P := fun i v => v = .str (st l) t) (fun i m own => own = [] ∧ m.lookup (Str.ofString "eol") = some (.str (Str.ofString "\n") te) ∧ m.lookup (Str.ofString "encoded") = some (.str (st l) t) ∧
      ∃ td, m.lookup (Str.ofString "decoded") = some (.str (st (if i = 0 then [] else scan l ++ [10])) td)) (fun m v => (Str.ofString "line", v) :: m) (fun own v => own) H ?_ ⟨rfl, rfl, rfl, t2, rfl⟩ ?_ ?_ ?_
  · with_reducible refine m_call ?_
    refine n_loc H.ns rfl ?_
    with_reducible refine GM.splitlines ?_
    with_reducible refine cw0 ?_
    refine call_lines hv hl (by omega) ?_
    intro D s4 hD k4 hpl
    refine ⟨k4, srcX_list Rm.hh (plain_list hpl) ?_⟩
    intro it s5 h5
    refine ⟨_, h5.mono ?_, ?_⟩
    · intro i v e
      cases i with
      | zero => simpa using e.symm
      | succ i => simp at e
    · intro a ha
      rw [List.mem_singleton] at ha
      subst ha
      refine ⟨fun q => ?_, by simp⟩
      obtain ⟨o, _, _, ho, _⟩ := H.ns
      rw [← q, hD] at ho; cases ho
  · rintro i v g' s4 m own Q' E' ⟨rfl, h1⟩ H' hq
    exact wpAny_assign_Name (s_loc H' hq)
  · rintro i v m own g4 s4 E' K0 kn0 kr0 hi rfl ⟨rfl, he, hen, td, hd⟩ kg H
    have hi0 : i = 0 := by omega
    subst hi0
    simp only [if_true] at hd
    have gB : Bs w g4 := B.keeps kg
    -- line = line.rstrip()
    with_reducible refine x_assign ?_ (by kernel_rfl)
    with_reducible refine m_call ?_
    refine n_loc H.ns rfl ?_
    with_reducible refine GM.rstrip ?_
    with_reducible refine cw0 ?_
    refine call_rstrip hv (by omega) ?_
    intro tl s5 k5
    replace H := H.keeps k5
    refine s_loc H ?_
    intro s6 H
    -- if not line
    with_reducible refine x_if ?_
    refine t_not (t_name ?_)
    refine n_loc H.ns rfl ?_
    refine tru_s (by omega) ?_
    intro s7 k7
    replace H := H.keeps k7
    refine ite_f hl1 ?_
    refine wpAny_execs_nil ?_
    -- i = 0
    with_reducible refine x_assign ?_ (by kernel_rfl)
    with_reducible refine k_int ?_
    intro ti s8 k8
    replace H := H.keeps k8
    refine s_loc H ?_
    intro s9 H
    -- n = len(line)
    with_reducible refine x_assign ?_ (by kernel_rfl)
    with_reducible refine c_bi (H.bs gB) (by k_is) boot_len ?_
    with_reducible refine i_cons ?_
    refine n_loc H.ns rfl ?_
    with_reducible refine i_nil ?_
    refine len_s (by omega) ?_
    intro tn s10 k10
    replace H := H.keeps k10
    refine s_loc H ?_
    intro s11 H
    refine x_whileK (fun k sx => ∃ m i dec, St g4 L m [] s sx ∧ Lk l t te tl tn m i dec ∧ i ≤ l.length ∧ k = l.length - i ∧ ((i < l.length ∧ dec.length ≤ i ∧ dec ++ scan (l.drop i) = scan l) ∨ (i = l.length ∧ dec = scan l ++ [10]))) l.length ?_ ?_
    · refine ⟨_, 0, [], H, ?_, by omega, by omega, .inl ⟨hpos, by simp, by simp⟩⟩
      exact ⟨he, hen, rfl, rfl, ⟨ti, rfl⟩, ⟨td, hd⟩⟩
    · rintro E'' k s12 K1 kn1 kb1 kr1 ⟨m, i, dec, H, K, hi, rfl, hcase⟩
      obtain ⟨ti2, hti2⟩ := K.ii
      obtain ⟨td2, htd2⟩ := K.oo
      refine t_cmp ?_
      refine n_loc H.ns hti2 ?_
      refine n_loc H.ns K.nn ?_
      refine lt_int (tru_b ?_)
      rcases hcase with ⟨hlt, hdl, hsc⟩ | ⟨heq, hsc⟩
      rotate_left
      · have hf : decide ((i : Int) < (l.length : Int)) = false := by simp; omega
        refine ite_f (hf) ?_
        refine wpAny_execs_nil ?_
        refine (kn0 _ _ _ H ⟨rfl, K.eo, K.en, td2, ?_⟩).1
        rw [hsc] at htd2
        simpa using htd2
      have ht : decide ((i : Int) < (l.length : Int)) = true := by simp; omega
      refine ite_t (ht) ?_
      have hci := hv.getD hlt
      -- c = line[i]
      with_reducible refine x_assign ?_ (by kernel_rfl)
      refine e_sitem ?_
      refine n_loc H.ns K.ln ?_
      refine n_loc H.ns hti2 ⟨_, _, _, _, l.getD i 0, rfl, rfl, by omega, by omega, ?_, ?_⟩
      · rw [Int.toNat_natCast, List.getD_eq_getElem?_getD, List.getElem?_eq_getElem hlt]; rfl
      intro tc s13 k13
      replace H := H.keeps k13
      refine s_loc H ?_
      intro s14 H
      replace K : Lk l t te tl tn ((Str.ofString "c", .str (st [l.getD i 0]) tc) :: m) i dec := ⟨K.eo, K.en, K.ln, K.nn, K.ii, K.oo⟩
      refine wpAny_execs_cons (wpAny_mono (Q := fun f s13 => f = .next ∧ ∃ m i' dec', i < i' ∧ i' ≤ l.length ∧ dec'.length ≤ i' ∧ dec' ++ scan (l.drop i') = scan l ∧ St g4 L m [] s s13 ∧ Lk l t te tl tn m i' dec') ?_ (fun f s13 h => ?_) (fun _ _ y => y))
      · refine opqQ fun Q2 hQ2 => ?_
        refine wpAny_If ?_
        refine t_cmp ?_
        refine n_loc H.ns rfl ?_
        with_reducible refine k_str ?_
        intro t15 s15 k15
        replace H := H.keeps k15
        refine ne_s (b := [61]) (tru_b ?_)
        by_cases h61 : l.getD i 0 = 61
        · have e1 : ([l.getD i 0] != [61]) = false := by rw [h61]; rfl
          refine ite_f (e1) ?_
          -- elif i + 1 == n
          with_reducible refine x_if ?_
          refine t_cmp ?_
          with_reducible refine e_bin ?_
          refine n_loc H.ns hti2 ?_
          with_reducible refine k_int ?_
          intro t22 s22 k22
          replace H := H.keeps k22
          refine add_i ?_
          intro t23 s23 k23
          replace H := H.keeps k23
          refine n_loc H.ns K.nn ?_
          refine eq_i (tru_b ?_)
          have hne : i + 1 ≠ l.length := fun q => by
            have : l.length - 1 = i := by omega
            rw [this, h61] at hlast; cases hlast
          have e2 : (((i : Int) + 1) == (l.length : Int)) = false := by simp; omega
          refine ite_f (e2) ?_
          -- elif i + 2 < n and ..
          with_reducible refine x_if ?_
          refine wpAny_mono (Q := fun b s24 => b = hit l i ∧ St g4 L ((Str.ofString "c", .str (st [l.getD i 0]) tc) :: m) [] s s24) ?_ (fun b s24 h => ?_) (fun _ _ y => y)
          · refine t_and3 ?_
            refine t_cmp ?_
            with_reducible refine e_bin ?_
            refine n_loc H.ns hti2 ?_
            with_reducible refine k_int ?_
            intro t25 s25 k25
            replace H := H.keeps k25
            refine add_i ?_
            intro t26 s26 k26
            replace H := H.keeps k26
            refine n_loc H.ns K.nn ?_
            refine lt_int (tru_b ?_)
            by_cases h2 : i + 2 < l.length
            · have e3 : decide ((i : Int) + 2 < (l.length : Int)) = true := by simp; omega
              refine ite_t (e3) ?_
              have hc1 := hv.getD (i := i + 1) (by omega)
              have hc2 := hv.getD (i := i + 2) (by omega)
              refine t_cmp ?_
              refine e_sitem ?_
              refine n_loc H.ns K.ln ?_
              with_reducible refine e_bin ?_
              refine n_loc H.ns hti2 ?_
              with_reducible refine k_int ?_
              intro t27 s27 k27
              replace H := H.keeps k27
              refine add_i ?_
              intro t28 s28 k28
              replace H := H.keeps k28
              refine ⟨_, _, _, _, l.getD (i + 1) 0, rfl, rfl, by omega, by omega, ?_, ?_⟩
              · have : ((i : Int) + 1).toNat = i + 1 := by omega
                rw [this, List.getD_eq_getElem?_getD, List.getElem?_eq_getElem (by omega)]; rfl
              intro t29 s29 k29
              replace H := H.keeps k29
              refine n_glob (H.bs gB) (by k_is) ?_
              refine in_hex (by omega) (tru_b ?_)
              by_cases hx1 : hexb (l.getD (i + 1) 0) = true
              · refine ite_t (hx1) ?_
                refine t_cmp ?_
                refine e_sitem ?_
                refine n_loc H.ns K.ln ?_
                with_reducible refine e_bin ?_
                refine n_loc H.ns hti2 ?_
                with_reducible refine k_int ?_
                intro t30 s30 k30
                replace H := H.keeps k30
                refine add_i ?_
                intro t31 s31 k31
                replace H := H.keeps k31
                refine ⟨_, _, _, _, l.getD (i + 2) 0, rfl, rfl, by omega, by omega, ?_, ?_⟩
                · have : ((i : Int) + 2).toNat = i + 2 := by omega
                  rw [this, List.getD_eq_getElem?_getD, List.getElem?_eq_getElem (by omega)]; rfl
                intro t32 s32 k32
                replace H := H.keeps k32
                refine n_glob (H.bs gB) (by k_is) ?_
                refine in_hex (by omega) (tru_b ?_)
                refine ⟨?_, H⟩
                unfold hit; rw [h61, hx1]; rfl
              · have hx1' : hexb (l.getD (i + 1) 0) = false := by simpa using hx1
                refine ite_f (hx1') ?_
                refine ⟨?_, H⟩
                unfold hit; rw [h61, hx1']; rfl
            · have e3 : decide ((i : Int) + 2 < (l.length : Int)) = false := by simp; omega
              refine ite_f (e3) ?_
              refine ⟨?_, H⟩
              cases hh : hit l i with
              | false => rfl
              | true => exact absurd (hit_lt hh) h2
          obtain ⟨rfl, H⟩ := h
          cases hmiss : hit l i with
          | true =>
            refine ite_t rfl ?_
            have hi3 := hit_lt hmiss
            have hh' := hmiss
            unfold hit at hh'
            simp only [Bool.and_eq_true, beq_iff_eq] at hh'
            refine x_aug (wpAny_loadName_local rfl rfl H.ns htd2 ?_)
            with_reducible refine c_fn (fa := 50) (H.bs gB) (by k_is) (by k_is) ?_
            with_reducible refine i_cons ?_
            refine e_slice ?_
            refine n_loc H.ns K.ln ?_
            refine n_loc H.ns hti2 ?_
            with_reducible refine e_bin ?_
            refine n_loc H.ns hti2 ?_
            with_reducible refine k_int ?_
            intro t33 s33 k33
            replace H := H.keeps k33
            refine add_i ?_
            intro t34 s34 k34
            replace H := H.keeps k34
            refine ⟨l, tl, i, _, i + 3, _, rfl, rfl, rfl, by omega, by omega, Nat.le_trans hz0 (by decide), ?_⟩
            intro t35 s35 k35
            replace H := H.keeps k35
            with_reducible refine i_nil ?_
            refine ⟨H.bs gB, ?_⟩
            have e4 : i + 3 - i = 3 := by omega
            rw [e4, hit_take hmiss]
            refine wpAny_mono (unquote_spec (Rm.le (by decide) (by decide)) (H.bs gB) hh'.1.2 hh'.2) (fun v s36 h36 => ?_) fun _ _ y => y
            obtain ⟨k36, t36, rfl⟩ := h36
            replace H := H.keeps k36
            refine iadd_s (by simp; omega) ?_
            intro t37 s37 k37
            replace H := H.keeps k37
            refine s_loc H ?_
            intro s38 H
            refine x_aug (wpAny_loadName_local rfl rfl H.ns hti2 ?_)
            with_reducible refine k_int ?_
            intro t39 s39 k39
            replace H := H.keeps k39
            refine iadd_i ?_
            intro t40 s40 k40
            replace H := H.keeps k40
            refine s_loc H ?_
            intro s41 H
            refine x_nil (x_nil (x_nil (hQ2 _ _ ⟨rfl, _, i + 3, dec ++ [Mine.hv (l.getD (i + 1) 0) * 16 + Mine.hv (l.getD (i + 2) 0)], by omega, by omega, by simp; omega, ?_, H, ?_⟩)))
            rotate_left
            · exact ⟨K.eo, K.en, K.ln, K.nn, ⟨t40, rfl⟩, ⟨t37, rfl⟩⟩
            · rw [List.append_assoc, List.singleton_append, ← scan_hit hmiss]
              exact hsc
          | false =>
            refine ite_f rfl ?_
            refine x_aug (wpAny_loadName_local rfl rfl H.ns htd2 ?_)
            refine n_loc H.ns rfl ?_
            refine iadd_s (by simp; omega) ?_
            intro t16 s16 k16
            replace H := H.keeps k16
            refine s_loc H ?_
            intro s17 H
            refine x_aug (wpAny_loadName_local rfl rfl H.ns hti2 ?_)
            with_reducible refine k_int ?_
            intro t17 s18 k18
            replace H := H.keeps k18
            refine iadd_i ?_
            intro t19 s19 k19
            replace H := H.keeps k19
            refine s_loc H ?_
            intro s20 H
            refine x_nil (x_nil (x_nil (hQ2 _ _ ⟨rfl, _, i + 1, dec ++ [l.getD i 0], by omega, by omega, by simp; omega, ?_, H, ?_⟩)))
            · rw [List.append_assoc, List.singleton_append, ← scan_miss hlt ?_]
              · exact hsc
              · exact hmiss
            · exact ⟨K.eo, K.en, K.ln, K.nn, ⟨t19, rfl⟩, ⟨t16, rfl⟩⟩
        · have e1 : ([l.getD i 0] != [61]) = true := by simpa using h61
          refine ite_t (e1) ?_
          have hmiss : hit l i = false := by
            unfold hit
            have : (l.getD i 0 == 61) = false := by simpa using h61
            rw [this]; rfl
          refine x_aug (wpAny_loadName_local rfl rfl H.ns htd2 ?_)
          refine n_loc H.ns rfl ?_
          refine iadd_s (by simp; omega) ?_
          intro t16 s16 k16
          replace H := H.keeps k16
          refine s_loc H ?_
          intro s17 H
          refine x_aug (wpAny_loadName_local rfl rfl H.ns hti2 ?_)
          with_reducible refine k_int ?_
          intro t17 s18 k18
          replace H := H.keeps k18
          refine iadd_i ?_
          intro t19 s19 k19
          replace H := H.keeps k19
          refine s_loc H ?_
          intro s20 H
          refine x_nil (hQ2 _ _ ⟨rfl, _, i + 1, dec ++ [l.getD i 0], by omega, by omega, by simp; omega, ?_, H, ?_⟩)
          · rw [List.append_assoc, List.singleton_append, ← scan_miss hlt ?_]
            · exact hsc
            · exact hmiss
          · exact ⟨K.eo, K.en, K.ln, K.nn, ⟨t19, rfl⟩, ⟨t16, rfl⟩⟩
      · obtain ⟨rfl, m2, i', dec', hii, hil, hdl', hsc', H, K⟩ := h
        obtain ⟨ti3, hti3⟩ := K.ii
        obtain ⟨td3, htd3⟩ := K.oo
        dsimp only
        with_reducible refine x_if ?_
        refine t_cmp ?_
        refine n_loc H.ns hti3 ?_
        refine n_loc H.ns K.nn ?_
        refine eq_i (tru_b ?_)
        by_cases hend : i' = l.length
        · have e1 : ((i' : Int) == (l.length : Int)) = true := by rw [hend]; simp
          refine ite_t (e1) ?_
          refine x_aug (wpAny_loadName_local rfl rfl H.ns htd3 ?_)
          refine n_loc H.ns K.eo ?_
          have e10 : Str.ofString "\n" = st [10] := rfl
          rw [e10]
          refine iadd_s (by simp; omega) ?_
          intro t21 s21 k21
          replace H := H.keeps k21
          refine s_loc H ?_
          intro s22 H
          refine x_nil ?_
          refine x_nil ?_
          refine (kn1 _ ⟨l.length - i', by omega, _, i', dec' ++ [10], H, ?_, hil, rfl, .inr ⟨hend, ?_⟩⟩).1
          · exact ⟨K.eo, K.en, K.ln, K.nn, K.ii, ⟨t21, rfl⟩⟩
          · rw [hend, List.drop_length, scan_nil, List.append_nil] at hsc'
            rw [hsc']
        · have e1 : ((i' : Int) == (l.length : Int)) = false := beq_false_of_ne fun q => hend (Int.ofNat.inj q)
          refine ite_f (e1) ?_
          refine x_nil ?_
          refine x_nil ?_
          exact (kn1 _ ⟨l.length - i', by omega, _, i', dec', H, K, hil, rfl, .inl ⟨by omega, hdl', hsc'⟩⟩).1
  · rintro m own s4 ⟨rfl, he, hen, td, hd⟩ H
    have e10 : Str.ofString "\n" = st [10] := rfl
    rw [e10] at he
    have hd' : m.lookup (Str.ofString "decoded") = some (.str (st (scan l ++ [10])) td) := by simpa using hd
    have hsl := scan_len l
    with_reducible refine x_if ?_
    refine t_and ?_
    refine t_cmp ?_
    refine e_sitemN ?_
    refine n_loc H.ns hen ?_
    with_reducible refine wpAny_UnaryOp ?_
    with_reducible refine k_int ?_
    intro t5 s5 k5
    refine P.neg_int ?_
    refine ⟨_, _, _, rfl, rfl, 46, ?_, ?_⟩
    · rw [char_last hpos, hlast]
    intro t6 s6 k6
    replace H := H.keeps (k5.trans ((Kp.tok _ _).trans k6))
    with_reducible refine k_str ?_
    intro t7 s7 k7
    replace H := H.keeps k7
    with_reducible refine notin_s dot_in ?_
    refine tru_b ?_
    refine ite_t rfl ?_
    refine t_call ?_
    with_reducible refine m_call ?_
    refine n_loc H.ns hd' ?_
    with_reducible refine GM.endswith ?_
    with_reducible refine cw1 ?_
    with_reducible refine i_cons ?_
    refine n_loc H.ns he ?_
    with_reducible refine i_nil ?_
    refine SC.endswith ?_
    rw [ends_one]
    refine tru_b ?_
    refine ite_t rfl ?_
    with_reducible refine x_assign ?_ (by kernel_rfl)
    refine wpAny_Subscript_str_slice ?_
    refine n_loc H.ns hd' ?_
    refine wpAny_of_eq (evalPart_none _) ?_
    rw [evalPart_some]
    with_reducible refine wpAny_UnaryOp ?_
    with_reducible refine c_bi (H.bs B) (by k_is) boot_len ?_
    with_reducible refine i_cons ?_
    refine n_loc H.ns he ?_
    with_reducible refine i_nil ?_
    refine len_s (by simp) ?_
    intro t8 s8 k8
    replace H := H.keeps k8
    refine P.neg_int ?_
    refine ⟨_, _, none, some (-1, _), rfl, rfl, rfl, ?_⟩
    refine made_but (by omega) ?_
    intro t9 s9 k9
    replace H := H.keeps ((Kp.push s8 _ _).trans k9)
    refine s_loc H ?_
    intro s10 H
    refine x_nil ?_
    with_reducible refine x_ret ?_
    refine n_loc H.ns rfl ?_
    exact hQ _ _ ⟨H.done, _, rfl⟩
end Mine
end

-- M1
section
open PySem PySem.W PyProof.Rows PySem.Calls
set_option Elab.async false
set_option linter.unusedVariables false
set_option linter.unusedSimpArgs false
namespace Mine
noncomputable def nee (tb : List (List Part)) (k : Nat) : List Nat := (tb.getD k []).filterMap fun p => match p with | .ref i => some i | .lit _ => none
noncomputable def nssOf (tb : List (List Part)) : List (List Int) := tb.map fun ps => (ps.filterMap fun p => match p with | .ref i => some i | .lit _ => none).map fun (k : Nat) => (k : Int)
theorem nss_get (tb : List (List Part)) (k : Nat) : (nssOf tb).getD k [] = (nee tb k).map fun (k : Nat) => (k : Int) := by
  unfold nssOf nee
  rw [List.getD_eq_getElem?_getD, List.getD_eq_getElem?_getD, List.getElem?_map]
  cases tb[k]? <;> simp
noncomputable def hn (nss : List (List Int)) : Nat → List Int → Nat
  | 0, _ => 0
  | k + 1, front => if front = [] then 0 else hn nss k (stepF nss front) + 1
theorem hl_hn (nss : List (List Int)) : ∀ k front (s : Int), hl nss k front s = s + (hn nss k front : Int)
  | 0, front, s => by simp [hl, hn]
  | k + 1, front, s => by
    rw [hl, hn]
    split
    · simp
    · rw [hl_hn nss k]; push_cast; omega
theorem mem_step {nss : List (List Int)} {front : List Int} {n : Int} : n ∈ stepF nss front ↔ (0 ≤ n ∧ n < 5) ∧ ∃ one ∈ front, n ∈ nss.getD one.toNat [] := by
  unfold stepF
  rw [List.mem_filter]
  constructor
  · rintro ⟨h1, h2⟩
    obtain ⟨m, hm, rfl⟩ := List.mem_map.mp h1
    have := List.mem_range.mp hm
    refine ⟨by omega, ?_⟩
    obtain ⟨one, ho, hd⟩ := List.any_eq_true.mp h2
    unfold nd at hd
    obtain ⟨y, hy, e⟩ := List.any_eq_true.mp hd
    exact ⟨one, ho, by simpa using (by simpa using e : y = (m : Int)) ▸ hy⟩
  · rintro ⟨⟨h1, h2⟩, one, ho, hd⟩
    refine ⟨List.mem_map.mpr ⟨n.toNat, List.mem_range.mpr (by omega), by omega⟩, List.any_eq_true.mpr ⟨one, ho, ?_⟩⟩
    unfold nd
    exact List.any_eq_true.mpr ⟨n, hd, by simp⟩
theorem hn_le (nss : List (List Int)) : ∀ k front, hn nss k front ≤ k
  | 0, _ => by simp [hn]
  | k + 1, front => by
    rw [hn]
    split
    · omega
    · have := hn_le nss k (stepF nss front); omega
theorem hn_max (nss : List (List Int)) : ∀ k front m, hn nss k front ≤ m ↔ ∀ j ∈ front, hn nss k [j] ≤ m
  | 0, front, m => by simp [hn]
  | k + 1, front, m => by
    rw [hn]
    by_cases hf : front = []
    · subst hf; simp
    · rw [if_neg hf]
      constructor
      · intro h j hj
        rw [hn, if_neg (by simp)]
        have h1 : hn nss k (stepF nss front) ≤ m - 1 := by omega
        have h2 : hn nss k (stepF nss [j]) ≤ m - 1 := (hn_max nss k _ _).mpr fun i hi => (hn_max nss k _ _).mp h1 i (by
          rw [mem_step] at hi ⊢
          obtain ⟨h3, one, ho, hd⟩ := hi
          rw [List.mem_singleton.mp ho] at hd
          exact ⟨h3, j, hj, hd⟩)
        omega
      · intro h
        obtain ⟨j0, hj0⟩ := List.exists_mem_of_ne_nil _ hf
        have hm : 1 ≤ m := by
          have := h j0 hj0
          rw [hn, if_neg (by simp)] at this
          omega
        have h1 : hn nss k (stepF nss front) ≤ m - 1 := (hn_max nss k _ _).mpr fun i hi => by
          rw [mem_step] at hi
          obtain ⟨h3, one, ho, hd⟩ := hi
          have h4 := h one ho
          rw [hn, if_neg (by simp)] at h4
          have h5 : hn nss k (stepF nss [one]) ≤ m - 1 := by omega
          exact (hn_max nss k _ _).mp h5 i (mem_step.mpr ⟨h3, one, .head _, hd⟩)
        omega
theorem hn_min (nss : List (List Int)) : ∀ k front, hn nss k front = min k (hn nss (k + 1) front)
  | 0, front => by simp [hn]
  | k + 1, front => by
    rw [hn, hn]
    split
    · simp
    · rw [hn_min nss k]; exact (Nat.add_min_add_right _ _ _).symm
noncomputable def ht (tb : List (List Part)) (k : Nat) : Nat := hn (nssOf tb) 6 [(k : Int)]
section
variable {tb : List (List Part)} (hV : ∀ k < 5, ∀ j ∈ nee tb k, j < 5)
include hV
theorem step_one {k : Nat} (hk : k < 5) (n : Int) : n ∈ stepF (nssOf tb) [(k : Int)] ↔ ∃ j ∈ nee tb k, n = (j : Int) := by
  rw [mem_step]
  constructor
  · rintro ⟨_, one, ho, hd⟩
    rw [List.mem_singleton.mp ho, Int.toNat_natCast, nss_get] at hd
    obtain ⟨j, hj, rfl⟩ := List.mem_map.mp hd
    exact ⟨j, hj, rfl⟩
  · rintro ⟨j, hj, rfl⟩
    have := hV k hk j hj
    exact ⟨by omega, _, .head _, by rw [Int.toNat_natCast, nss_get]; exact List.mem_map.mpr ⟨j, hj, rfl⟩⟩
theorem ht_le {k m : Nat} (hk : k < 5) : ht tb k ≤ m + 1 ↔ ∀ j ∈ nee tb k, min 5 (ht tb j) ≤ m := by
  unfold ht
  rw [hn, if_neg (by simp)]
  have : hn (nssOf tb) 5 (stepF (nssOf tb) [(k : Int)]) + 1 ≤ m + 1 ↔ hn (nssOf tb) 5 (stepF (nssOf tb) [(k : Int)]) ≤ m := by omega
  rw [this, hn_max]
  constructor
  · intro h j hj
    have := h (j : Int) ((step_one hV hk _).mpr ⟨j, hj, rfl⟩)
    rw [hn_min] at this
    exact this
  · intro h n hn'
    obtain ⟨j, hj, rfl⟩ := (step_one hV hk _).mp hn'
    rw [hn_min]
    exact h j hj
omit hV in
theorem ht_pos (k : Nat) : 1 ≤ ht tb k := by
  unfold ht
  rw [hn, if_neg (by simp)]; omega
omit hV in
theorem ht_six (k : Nat) : ht tb k ≤ 6 := hn_le _ _ _
theorem ht_need {k j : Nat} (hk : k < 5) (hj : j ∈ nee tb k) : min 5 (ht tb j) + 1 ≤ ht tb k := by
  have h1 := ht_pos (tb := tb) k
  have := (ht_le hV hk (m := ht tb k - 1)).mp (Nat.le_of_eq (Nat.sub_add_cancel h1).symm) j hj
  exact Nat.le_trans (Nat.succ_le_succ this) (Nat.le_of_eq (Nat.sub_add_cancel h1))
theorem ht_from {k : Nat} (hk : k < 5) (h2 : 2 ≤ ht tb k) : ∃ j ∈ nee tb k, min 5 (ht tb j) + 1 = ht tb k := by
  refine Classical.byContradiction fun hn => ?_
  have := (ht_le hV hk (m := ht tb k - 2)).mpr fun j hj => by
    have h3 := ht_need hV hk hj
    have h4 : min 5 (ht tb j) + 1 ≠ ht tb k := fun e => hn ⟨j, hj, e⟩
    omega
  omega
omit hV in
theorem min5 {x n : Nat} (hn : n < 5) (h : min 5 x + 1 = n + 1) : x = n := by omega
theorem ht_five {k j : Nat} (hk : k < 5) (hj : j ∈ nee tb k) : ht tb j ≠ 5 := by
  intro h5
  have hj5 := hV k hk j hj
  have h6 : ht tb k = 6 := Nat.le_antisymm (ht_six k) (by have := ht_need hV hk hj; rw [h5] at this; exact this)
  obtain ⟨a, ha, ea⟩ := ht_from hV hj5 (by rw [h5]; decide)
  have h4 := min5 (n := 4) (by decide) (ea.trans h5)
  have ha5 := hV j hj5 a ha
  obtain ⟨b, hb, eb⟩ := ht_from hV ha5 (by rw [h4]; decide)
  have h3 := min5 (n := 3) (by decide) (eb.trans h4)
  have hb5 := hV a ha5 b hb
  obtain ⟨c, hc, ec⟩ := ht_from hV hb5 (by rw [h3]; decide)
  have h2 := min5 (n := 2) (by decide) (ec.trans h3)
  have hc5 := hV b hb5 c hc
  obtain ⟨d, hd, ed⟩ := ht_from hV hc5 (by rw [h2]; decide)
  have h1 := min5 (n := 1) (by decide) (ed.trans h2)
  have hd5 := hV c hc5 d hd
  have hm : [k, j, a, b, c, d].map (ht tb) = [6, 5, 4, 3, 2, 1] := by simp only [List.map_cons, List.map_nil, h6, h5, h4, h3, h2, h1]
  have hl : [k, j, a, b, c, d].Nodup := List.Pairwise.of_map (S := (· ≠ ·)) (ht tb) (fun a b (h : ht tb a ≠ ht tb b) e => h (congrArg _ e)) (by rw [hm]; decide)
  exact absurd (nd_len 5 [k, j, a, b, c, d] hl (by
    intro x hx
    simp only [List.mem_cons, List.not_mem_nil, or_false] at hx
    rcases hx with rfl | rfl | rfl | rfl | rfl | rfl <;> assumption)) (by decide : ¬ 6 ≤ 5)
theorem ht_lt {k j : Nat} (hk : k < 5) (hj : j ∈ nee tb k) (h6 : ht tb k < 6) : ht tb j < ht tb k := by
  have h1 := ht_need hV hk hj
  have h2 := ht_five hV hk hj
  have := ht_six (tb := tb) j
  omega
theorem ht_pred {k : Nat} (hk : k < 5) (h2 : 2 ≤ ht tb k) : ∃ j ∈ nee tb k, (ht tb k < 6 → ht tb j + 1 = ht tb k) ∧ (ht tb k = 6 → ht tb j = 6) := by
  obtain ⟨j, hj, e⟩ := ht_from hV hk h2
  rcases Nat.lt_or_ge (ht tb j) 5 with h5 | h5
  · rw [Nat.min_eq_right (Nat.le_of_lt h5)] at e
    exact ⟨j, hj, fun _ => e, fun h => absurd (e.trans h) (Nat.ne_of_lt (Nat.succ_lt_succ h5))⟩
  · rw [Nat.min_eq_left h5] at e
    exact ⟨j, hj, fun h => absurd e.symm (Nat.ne_of_lt h), fun _ => Nat.le_antisymm (ht_six j) (Nat.lt_of_le_of_ne h5 (Ne.symm (ht_five hV hk hj)))⟩
end
end Mine
end

-- TB1
section
open PySem PySem.W PyProof.Rows PySem.Calls
set_option Elab.async false
set_option linter.unusedVariables false
set_option linter.unusedSimpArgs false
namespace Mine

noncomputable def fig (k : Nat) : Nat := if k < 10 then 48 + k else 55 + k
noncomputable def Spell (sg : List Nat) (need : Nat) (p : Part) : Prop := p = .lit need ∨ p = .lit (low need) ∨ ∃ i, i < 5 ∧ p = .ref i ∧ (sg.getD i 0 = need ∨ sg.getD i 0 = low need)
noncomputable def SignOk (c : Nat) : Prop := 33 ≤ c ∧ c ≤ 126 ∧ c ≠ 95
noncomputable def RowOk (sg : List Nat) (c : Nat) (ps : List Part) : Prop := ∃ p0 p1 p2, ps = [p0, p1, p2] ∧ Spell sg 61 p0 ∧ Spell sg (fig (c / 16)) p1 ∧ Spell sg (fig (c % 16)) p2
structure Good (sg : List Nat) (tb : List (List Part)) : Prop where
  lS : sg.length = 5
  sok : ∀ c ∈ sg, SignOk c
  lT : tb.length = 5
  rows : ∀ (i : Nat) ps, tb[i]? = some ps → RowOk sg (sg.getD i 0) ps

noncomputable def figs : List Nat := [48, 49, 50, 51, 52, 53, 54, 55, 56, 57, 65, 66, 67, 68, 69, 70]
theorem figs_get : ∀ k < 16, figs[k]? = some (fig k) := by decide
theorem fig_lt : ∀ k < 16, fig k < 128 := by decide
theorem fdiv16 (c : Nat) : Int.fdiv (c : Int) 16 = ((c / 16 : Nat) : Int) := by rw [Int.fdiv_eq_ediv_of_nonneg _ (by decide)]; rfl
theorem fmod16 (c : Nat) : Int.fmod (c : Int) 16 = ((c % 16 : Nat) : Int) := by rw [Int.fmod_eq_emod_of_nonneg _ (by decide)]; rfl
theorem parts_snoc : ∀ {vs : List Value} {ps : List Part} {v : Value} {p : Part}, PartsAre vs ps → PartIs v p → PartsAre (vs ++ [v]) (ps ++ [p])
  | _, _, _, _, .nil, h => .cons h .nil
  | _, _, _, _, .cons h r, h' => .cons h (parts_snoc r h')
theorem strs_len {vs : List Value} {ys : List Str} (h : StrsAre vs ys) : vs.length = ys.length := by
  induction h with
  | nil => rfl
  | cons _ _ _ ih => simp [ih]

set_option maxRecDepth 100000 in
inductive TBa (L aS aF aX aV : Addr) (i : Nat) (m : List (Str × Value)) (own : List (Addr × (Obj → Prop))) : Prop
  | mk (sg : List Nat) (vs : List Value) (h1 : own = [(aS, isL vs), (L + 6, isC none), (L + 5, isC none), (L + 4, isC (some (.ref aS))), (L + 3, isC none), (L + 2, isC (some (.ref aF))), (L + 1, isC (some (.ref aX)))])
    (h2 : StrsAre vs (sg.map fun c => st [c])) (h3 : sg.length = i) (h4 : ∀ c ∈ sg, SignOk c) (h5 : m.lookup (Str.ofString "values") = some (.ref aV))
inductive TBb (L aS aF aX aV aT : Addr) (sg : List Nat) (i : Nat) (m : List (Str × Value)) (own : List (Addr × (Obj → Prop))) : Prop
  | mk (rows : List (Addr × List Value × List Part)) (ndv lv jv : Option Value) (tf : Tok) (h1 : own = [(L + 6, isC ndv), (L + 5, isC lv), (L + 4, isC (some (.ref aS))), (L + 3, isC jv), (L + 2, isC (some (.ref aF))), (L + 1, isC (some (.ref aX))), (aT, isL (rows.map fun r => .ref r.1))] ++ rows.map (fun r => (r.1, isL r.2.1)))
    (h2 : rows.length = i) (h3 : ∀ (k : Nat) r, rows[k]? = some r → PartsAre r.2.1 r.2.2 ∧ RowOk sg (sg.getD k 0) r.2.2) (h4 : m.lookup (Str.ofString "values") = some (.ref aV)) (h5 : m.lookup (Str.ofString "figures") = some (.str (Str.ofString "0123456789ABCDEF") tf)) (h6 : m.lookup (Str.ofString "table") = some (.ref aT))
inductive TBc (L aS aF aX aV aT aP : Addr) (sg : List Nat) (rows : List (Addr × List Value × List Part)) (late : Bool) (j : Nat) (tj tf : Tok) (cj : Nat) (q : Nat) (m : List (Str × Value)) (own : List (Addr × (Obj → Prop))) : Prop
  | mk (pv : List Value) (ps : List Part) (ndv : Option Value) (rz : Int) (tr : Tok) (h1 : own = ((aP, isL pv) :: (L + 6, isC ndv) :: ([(L + 5, isC (some (.bool late))), (L + 4, isC (some (.ref aS))), (L + 3, isC (some (.int j tj))), (L + 2, isC (some (.ref aF))), (L + 1, isC (some (.ref aX))), (aT, isL (rows.map fun r => .ref r.1))] ++ rows.map (fun r => (r.1, isL r.2.1)))))
    (h2 : PartsAre pv ps) (h3 : ps.length = q) (h4 : ∀ (k : Nat) p, ps[k]? = some p → Spell sg ([61, fig (cj / 16), fig (cj % 16)].getD k 0) p) (h5 : m.lookup (Str.ofString "rest") = some (.int rz tr)) (h6 : m.lookup (Str.ofString "parts") = some (.ref aP))
    (h7 : m.lookup (Str.ofString "values") = some (.ref aV)) (h8 : m.lookup (Str.ofString "figures") = some (.str (Str.ofString "0123456789ABCDEF") tf)) (h9 : m.lookup (Str.ofString "table") = some (.ref aT))
set_option maxHeartbeats 4000000 in
set_option pp.deepTerms false in
set_option pp.maxSteps 500 in
theorem table_spec {prog : Program} {w : World} {A : Around} {E : Value → Shared → Prop} {s : Shared} {aX : Addr} {vx : List Value} {nx : List Int}
    (Rm : Room A 3 20) (B : Bs w s.heap) (hX : s.heap.IsList aX vx.toArray) (iX : IntsAre vx nx) (hzX : vx.length ≤ 63) :
    wpAny (model prog w) A (call (.ref 197) [.ref aX]) (fun r s' => Kp s s' ∧ ∃ aR aS aT sg tb vs, r = .ref aR ∧ s'.heap.get? aR = some { cls := .type "tuple", data := .seq #[.ref aS, .ref aT] } ∧
      s'.heap.IsList aS vs.toArray ∧ StrsAre vs (sg.map fun c => st [c]) ∧ LTab s'.heap aT tb ∧ Good sg tb) E s := by
  have hz : (fun (_ : PySem.W.OpenLaw × (Params → Frag)) => True) (PySem.Challenge.rw_of0070_01, Mine.hd.heap_39) := by (k_fill; trivial)
  refine opqQ fun Q hQ => ?_
  refine wpAny_call (enterCR B Rm.low (by k_is) (by k_is) rfl ?_ ?_)
  · exact ⟨.inr ⟨rfl, rfl⟩, trivial⟩
  intro s' A1 DA H
  replace Rm := Rm.deep DA (d' := 2) (u' := 17) (by decide) (by decide)
  clear DA
  replace H : St s.heap s.heap.objs.size [] [(s.heap.objs.size + 6, isC none), (s.heap.objs.size + 5, isC none), (s.heap.objs.size + 4, isC none), (s.heap.objs.size + 3, isC none), (s.heap.objs.size + 2, isC none), (s.heap.objs.size + 1, isC (some (.ref aX)))] s s' := H
  generalize s.heap.objs.size = L at H ⊢
  -- first
  refine x_assign (e_list (i_cons ?_))
  refine k_int ?_
  intro t1 s1 k1
  refine i_cons (k_int ?_)
  intro t2 s2 k2
  refine i_cons (k_int ?_)
  intro t3 s3 k3
  refine i_cons (k_int ?_)
  intro t4 s4 k4
  refine i_cons (k_int ?_)
  intro t5 s5 k5
  refine i_nil ⟨by size_fits, ?_⟩
  intro aF s6 hF k6 lF
  replace H := H.keeps ((((k1.trans k2).trans k3).trans k4).trans k5)
  obtain ⟨g1, H1, kg1, fz⟩ := H.frz k6 hF
  have gF : g1.IsList aF [.int 752 t1, .int 6769 t2, .int 196276 t3, .int 10039 t4, .int 343669 t5].toArray := by
    obtain ⟨n, e⟩ := lF; exact ⟨_, fz _ e, rfl, n, rfl⟩
  have iF : IntsAre [.int 752 t1, .int 6769 t2, .int 196276 t3, .int 10039 t4, .int 343669 t5] [752, 6769, 196276, 10039, 343669] := .cons _ _ (.cons _ _ (.cons _ _ (.cons _ _ (.cons _ _ .nil))))
  have gX : g1.IsList aX vx.toArray := hX.at fun o e => kg1 _ o e
  have gB : Bs w g1 := B.keeps kg1
  clear H k1 k2 k3 k4 k5 fz lF
  refine s_cell (i := 4) H1 rfl rfl ?_
  intro s7 H
  -- values
  refine wpAny_execs_cons ?_
  refine lcA (n := 5) (P := fun i v => ∃ t, v = .int (i : Int) t) (fun i acc => ∃ ns, IntsAre acc ns ∧ ns.length = i) rfl H ?_ ⟨[], .nil, rfl⟩
  refine e_range (n := 5) (H.bs gB) (by k_is) ?_
  intro ra s8 t8 u8 v8 k8 hr
  refine ⟨k8, src_range Rm.hh hr (by decide) ?_⟩
  intro it s9 hsrc
  replace H := H.keeps k8
  refine ⟨hsrc, ?_, ?_⟩
  · intro C m i v acc s10 E10 hi hP hJ hn hm hk
    obtain ⟨tn, rfl⟩ := hP
    have up : ∀ b o, s8.heap.get? b = some o → s10.heap.get? b = some o := fun b o e => hk b o (by simp) e
    have upg : ∀ b o, g1.get? b = some o → s10.heap.get? b = some o := fun b o e => up b o (H.keep b o e)
    have B10 : Bs w s10.heap := gB.keeps upg
    refine ct_nil ⟨Kp.same _, ?_⟩
    simp only [if_true]
    obtain ⟨nf, hnf⟩ : ∃ x, ([752, 6769, 196276, 10039, 343669] : List Int)[i]? = some x := ⟨([752, 6769, 196276, 10039, 343669] : List Int)[i]'(by simpa using hi), by simp⟩
    obtain ⟨tf, etf⟩ := ints_at iF hnf
    refine e_bin (e_item ?_)
    refine n_cell (c := L + 2) (by kernel_rfl) ((H.cell (i := 4) rfl).keeps up) ?_
    refine n_loc hn hm (item_n (v := .int nf tf) (gF.at fun o e => upg _ o e) hi etf ?_)
    refine c_bi B10 (by k_is) Boot.sum (i_cons (e_step ?_))
    refine n_cell (c := L + 1) (by kernel_rfl) ((H.cell (i := 5) rfl).keeps up) ?_
    refine n_loc hn hm (k_int ?_)
    intro t11 s11 k11
    refine ⟨aX, vx, nx, i, tn, 5, t11, rfl, rfl, rfl, by decide, gX.at fun o e => k11.get _ o (upg _ o e), iX, by rw [sizeLine_eq]; omega, ?_⟩
    intro D s12 us ms k12 lD iD
    refine i_nil (sum_ints Rm.hh lD iD ?_)
    intro n13 t13 s13 k13
    refine add_i ?_
    intro t14 s14 k14
    refine ⟨((k11.trans k12).trans k13).trans k14, ?_⟩
    obtain ⟨ns, h1, h2⟩ := hJ
    exact ⟨ns ++ [nf + n13], ints_snoc h1, by simp [h2]⟩
  · intro aV s10 vv hV H10 lV hJ hVL hk10
    obtain ⟨nv, iV, lnV⟩ := hJ
    dsimp only
    have hVo : ∀ p ∈ [(L + 6, isC none), (L + 5, isC none), (L + 4, isC none), (L + 3, isC none), (L + 2, isC (some (.ref aF))), (L + 1, isC (some (.ref aX)))], p.1 ≠ aV := by
      intro p hp q
      obtain ⟨⟨o, ho, _⟩, _⟩ := H.owns p hp
      rw [q, hV] at ho; cases ho
    replace H : St g1 L [(Str.ofString "values", .ref aV)] [(L + 6, isC none), (L + 5, isC none), (L + 4, isC none), (L + 3, isC none), (L + 2, isC (some (.ref aF))), (L + 1, isC (some (.ref aX)))] s s10 := H10
    obtain ⟨g2, H2, kg2, kb2⟩ := H.reb
    have gV : g2.IsList aV vv.toArray := by
      obtain ⟨n, e⟩ := lV; exact ⟨_, kb2 _ _ e hVL hVo, rfl, n, rfl⟩
    clear kb2 hk10 lV H10 H H1 hsrc hr
    have kg : ∀ b o, s.heap.get? b = some o → g2.get? b = some o := fun b o e => kg2 b o (kg1 b o e)
    replace gB := gB.keeps kg2
    clear gX gF iF kg1 kg2 k8 hV
    have lvv : vv.length = 5 := by rw [iV.length, lnV]
    -- signs
    refine x_assign (e_list (i_nil ⟨by size_fits, ?_⟩))
    intro aS s11 hS k11 lS
    replace H2 := H2.more k11 hS (P := isL []) (let ⟨n, e⟩ := lS; ⟨_, e, n, rfl⟩)
    refine s_cell (i := 3) H2 rfl rfl ?_
    intro s12 H
    replace H : St g2 L [(Str.ofString "values", .ref aV)] [(aS, isL []), (L + 6, isC none), (L + 5, isC none), (L + 4, isC (some (.ref aS))), (L + 3, isC none), (L + 2, isC (some (.ref aF))), (L + 1, isC (some (.ref aX)))] s s12 := H
    refine x_forGK (n := 5) (P := fun i v => vv[i]? = some v) (fun i m own => TBa L aS aF aX aV i m own) (fun m v => (Str.ofString "v", v) :: m) (fun own v => own) H ?_ ⟨[], [], rfl, .nil, rfl, by simp, rfl⟩ ?_ ?_ ?_
    · refine n_loc H.ns rfl ⟨Kp.same _, ?_⟩
      have hl := gV.at fun o e => H.keep _ o e
      refine srcX_list Rm.hh hl ?_
      intro it s13 h13
      rw [lvv] at h13
      refine ⟨_, h13, ?_⟩
      intro a ha
      rw [List.mem_singleton.mp ha]
      refine ⟨hVL, ?_⟩
      intro p hp q
      obtain ⟨o, ho, _⟩ := gV
      have := (H.owns p hp).2.2
      rw [q, ho] at this; cases this
    · intro i v g' s14 m own Q' E' hI H' hq
      exact wpAny_assign_Name (s_loc H' hq)
    · rintro i v m own g3 s14 E' K kn kr hi hP ⟨sg, vs, rfl, iS, lsg, hsg, hmv⟩ kg3 H
      obtain ⟨z, tz, hz1, rfl⟩ := ints_get iV hP
      replace H : St g3 L ((Str.ofString "v", .int z tz) :: m) [(aS, isL vs), (L + 6, isC none), (L + 5, isC none), (L + 4, isC (some (.ref aS))), (L + 3, isC none), (L + 2, isC (some (.ref aF))), (L + 1, isC (some (.ref aX)))] s s14 := H
      refine x_assign (e_bin (k_int ?_))
      intro t15 s15 k15
      replace H := H.keeps k15
      refine e_bin (e_bin (n_loc H.ns rfl (k_int ?_)))
      intro t16 s16 k16
      refine fdiv_i (by decide) (by decide) ?_
      intro t17 s17 k17
      refine k_int ?_
      intro t18 s18 k18
      refine fmod_i (by decide) ?_
      intro t19 s19 k19
      refine add_i ?_
      intro t20 s20 k20
      replace H := H.keeps ((((k16.trans k17).trans k18).trans k19).trans k20)
      refine s_loc H ?_
      intro s21 H
      clear k15 k16 k17 k18 k19 k20
      have hb1 := Int.fmod_nonneg_of_pos (z.fdiv 8) (b := 94) (by decide)
      have hb2 := Int.fmod_lt_of_pos (z.fdiv 8) (b := 94) (by decide)
      generalize hoc : (33 : Int) + (z.fdiv 8).fmod 94 = oc at H
      refine x_expr (m_call ?_)
      refine n_cell (c := L + 4) (by kernel_rfl) (H.cell (i := 3) rfl) ?_
      refine gm_list slot_list_append type_list_append (H.lst (i := 0) rfl) ?_
      with_reducible refine cw1 ?_
      with_reducible refine i_cons ?_
      refine e_item ?_
      with_reducible refine e_list ?_
      with_reducible refine i_cons (k_str ?_)
      intro u1 w1 l1
      with_reducible refine i_cons (k_str ?_)
      intro u2 w2 l2
      with_reducible refine i_cons (k_str ?_)
      intro u3 w3 l3
      with_reducible refine i_cons (k_str ?_)
      intro u4 w4 l4
      with_reducible refine i_cons (k_str ?_)
      intro u5 w5 l5
      with_reducible refine i_cons (k_str ?_)
      intro u6 w6 l6
      with_reducible refine i_cons (k_str ?_)
      intro u7 w7 l7
      replace H := H.keeps (((((l1.trans l2).trans l3).trans l4).trans l5).trans (l6.trans l7))
      clear l1 l2 l3 l4 l5 l6 l7
      have gB3 := gB.keeps kg3
      with_reducible refine i_cons ?_
      with_reducible refine c_bi (H.bs gB3) (by k_is) Boot.chr ?_
      with_reducible refine i_cons ?_
      refine wpAny_mono (Q := fun v s' => Kp w7 s' ∧ ∃ c t, v = .int c t ∧ 33 ≤ c ∧ c ≤ 126 ∧ c ≠ 95) ?_ (fun v8 w8 h8 => ?_) (fun _ _ y => y)
      · refine e_ite (t_cmp (n_loc H.ns rfl (k_int ?_)))
        intro u9 w9 l9
        refine ne_int (tru_b ?_)
        by_cases h95 : oc = 95
        · simp only [h95, bne_self_eq_false, Bool.false_eq_true, if_false]
          with_reducible refine k_int ?_
          intro u10 w10 l10
          exact ⟨l9.trans l10, 65, u10, rfl, by decide, by decide, by decide⟩
        · have : (oc != 95) = true := by simpa using h95
          simp only [this, if_true]
          exact n_loc (H.keeps l9).ns rfl ⟨l9, oc, t20, rfl, by omega, by omega, h95⟩
      obtain ⟨l8, c8, u8, rfl, hc1, hc2, hc3⟩ := h8
      with_reducible refine i_nil ?_
      refine chr_i (by omega) (by omega) ?_
      intro u9 w9 l9
      with_reducible refine i_nil ?_
      refine ⟨by size_fits, ?_⟩
      intro aL w10 hL10 l10 lL
      replace H := (H.keeps l8).keeps (l9.trans l10)
      with_reducible refine e_bin ?_
      refine n_loc H.ns rfl ?_
      with_reducible refine k_int ?_
      intro u11 w11 l11
      refine fmod_i (by decide) ?_
      intro u12 w12 l12
      replace H := H.keeps (l11.trans l12)
      have hq1 := Int.fmod_nonneg_of_pos z (b := 8) (by decide)
      have hq2 := Int.fmod_lt_of_pos z (b := 8) (by decide)
      obtain ⟨cs, ts, ecs, hcs⟩ : ∃ c t, [Value.str (Str.ofString "=") u1, .str (Str.ofString "3") u2, .str (Str.ofString "D") u3, .str (Str.ofString "4") u4, .str (Str.ofString "=") u5, .str (Str.ofString "3") u6, .str (Str.ofString "d") u7, .str (st [c8.toNat]) u9][(z.fmod 8).toNat]? = some (.str (st [c]) t) ∧ SignOk c := by
        have h8 : (z.fmod 8).toNat < 8 := by omega
        generalize (z.fmod 8).toNat = q at h8
        rcases q with _ | _ | _ | _ | _ | _ | _ | _ | q
        · exact ⟨61, u1, rfl, by decide, by decide, by decide⟩
        · exact ⟨51, u2, rfl, by decide, by decide, by decide⟩
        · exact ⟨68, u3, rfl, by decide, by decide, by decide⟩
        · exact ⟨52, u4, rfl, by decide, by decide, by decide⟩
        · exact ⟨61, u5, rfl, by decide, by decide, by decide⟩
        · exact ⟨51, u6, rfl, by decide, by decide, by decide⟩
        · exact ⟨100, u7, rfl, by decide, by decide, by decide⟩
        · exact ⟨c8.toNat, u9, rfl, by omega, by omega, by omega⟩
        · omega
      refine item_z ((plain_list lL).at fun o e => (l11.trans l12).get _ o e) hq1 (Int.lt_trans hq2 (by decide)) ecs ?_
      with_reducible refine i_nil ?_
      refine app_own (i := 0) H rfl ?_ ?_
      · rw [strs_len iS, List.length_map, lsg, sizeLine_eq]; omega
      intro w13 H
      refine ⟨rfl, x_nil (kn _ _ _ H ⟨sg ++ [cs], _, rfl, ?_, by simp [lsg], ?_, hmv⟩).1⟩
      · rw [List.map_append]; exact strs_snoc iS
      · intro c hc
        rcases List.mem_append.mp hc with hc | hc
        · exact hsg c hc
        · rw [List.mem_singleton.mp hc]; exact hcs
    rintro m own s13 ⟨sg, vs, rfl, iS, lsg, hsg, hmv⟩ H
    obtain ⟨g3, H3, kg3, oS, eS, nS, rfl⟩ := H.ice
    have gS : g3.IsList aS vs.toArray := ⟨_, eS, rfl, nS, rfl⟩
    clear H eS
    replace gV : g3.IsList aV vv.toArray := gV.at fun o e => kg3 _ o e
    replace gB := gB.keeps kg3
    replace kg : ∀ b o, s.heap.get? b = some o → g3.get? b = some o := fun b o e => kg3 b o (kg b o e)
    clear kg3
    -- figures, table
    with_reducible refine x_assign ?_ (by kernel_rfl)
    with_reducible refine k_str ?_
    intro t14 s14 k14
    refine s_loc (H3.keeps k14) ?_
    intro s15 H
    with_reducible refine x_assign ?_ (by kernel_rfl)
    with_reducible refine e_list ?_
    with_reducible refine i_nil ?_
    refine ⟨by size_fits, ?_⟩
    intro aT s16 hT k16 lT
    replace H := H.more k16 hT (P := isL []) (let ⟨n, e⟩ := lT; ⟨_, e, n, rfl⟩)
    refine s_loc H ?_
    intro s17 H
    replace H := H.perm (own' := [(L + 6, isC none), (L + 5, isC none), (L + 4, isC (some (.ref aS))), (L + 3, isC none), (L + 2, isC (some (.ref aF))), (L + 1, isC (some (.ref aX))), (aT, isL [])]) (List.perm_append_comm (l₁ := [_]))
    clear H3 k14 k16 lT hT
    refine x_forGK (n := 5) (P := fun i v => ∃ t, v = .int (i : Int) t) (fun i m own => TBb L aS aF aX aV aT sg i m own)
      (fun m v => m) (fun own v => own.set 3 (L + 3, isC (some v))) H ?_ ⟨[], none, none, none, t14, rfl, rfl, by simp, hmv, rfl, rfl⟩ ?_ ?_ ?_
    · refine e_range (n := 5) (H.bs gB) (by k_is) ?_
      intro ra s18 t18 u18 v18 k18 hr
      refine ⟨k18, srcX_range Rm.hh hr (by decide) ?_⟩
      intro it s19 h19
      exact ⟨_, h19, by simp⟩
    · rintro i v g' s18 m own Q' E' ⟨rows, ndv, lv, jv, tf, rfl, _⟩ H' hq
      exact wpAny_assign_Name (s_cell (i := 3) H' (by kernel_rfl) rfl hq)
    · rintro j v m own g4 s18 E' K kn kr hj ⟨tj, rfl⟩ ⟨rows, ndv, lv, jv, tf, rfl, lrows, hrows, hmv, hmf, hmt⟩ kg4 H
      replace H : St g4 L m ([(L + 6, isC ndv), (L + 5, isC lv), (L + 4, isC (some (.ref aS))), (L + 3, isC (some (.int j tj))), (L + 2, isC (some (.ref aF))), (L + 1, isC (some (.ref aX))), (aT, isL (rows.map fun r => .ref r.1))] ++ rows.map (fun r => (r.1, isL r.2.1))) s s18 := H
      replace gV : g4.IsList aV vv.toArray := gV.at fun o e => kg4 _ o e
      replace gS : g4.IsList aS vs.toArray := gS.at fun o e => kg4 _ o e
      replace gB := gB.keeps kg4
      clear kg4
      obtain ⟨z, hz1⟩ : ∃ z, nv[j]? = some z := ⟨nv[j]'(by omega), by simp⟩
      obtain ⟨tz, etz⟩ := ints_at iV hz1
      obtain ⟨cj, hcj⟩ : ∃ c, sg[j]? = some c := ⟨sg[j]'(by omega), by simp⟩
      have hcj' : sg.getD j 0 = cj := by rw [List.getD_eq_getElem?_getD, hcj]; rfl
      obtain ⟨ts, ets⟩ := strs_get iS (i := j) (y := st [cj]) (by simp [hcj])
      obtain ⟨hc1, hc2, hc3⟩ := hsg cj (List.mem_of_getElem? hcj)
      -- rest = values[j] // 752
      with_reducible refine x_assign ?_ (by kernel_rfl)
      with_reducible refine e_bin ?_
      refine e_item ?_
      refine n_loc H.ns hmv ?_
      refine n_cell (c := L + 3) (by kernel_rfl) (H.cell (i := 3) rfl) ?_
      refine item_n (v := .int z tz) (gV.at fun o e => H.keep _ o e) hj etz ?_
      with_reducible refine k_int ?_
      intro t19 s19 k19
      refine fdiv_i (by decide) (by decide) ?_
      intro t20 s20 k20
      refine s_loc (H.keeps (k19.trans k20)) ?_
      intro s21 H
      -- late
      with_reducible refine x_assign ?_ (by kernel_rfl)
      refine e_cmp ?_
      with_reducible refine e_bin ?_
      refine n_loc H.ns rfl ?_
      with_reducible refine k_int ?_
      intro t22 s22 k22
      refine fmod_i (by decide) ?_
      intro t23 s23 k23
      with_reducible refine k_int ?_
      intro t24 s24 k24
      refine eq_i ?_
      refine s_cell (i := 1) (H.keeps ((k22.trans k23).trans k24)) (by kernel_rfl) rfl ?_
      intro s25 H
      generalize hlate : ((z.fdiv 752).fmod 4 == 0) = late at H
      -- rest = rest // 4
      with_reducible refine x_assign ?_ (by kernel_rfl)
      with_reducible refine e_bin ?_
      refine n_loc H.ns rfl ?_
      with_reducible refine k_int ?_
      intro t26 s26 k26
      refine fdiv_i (by decide) (by decide) ?_
      intro t27 s27 k27
      refine s_loc (H.keeps (k26.trans k27)) ?_
      intro s28 H
      -- parts
      with_reducible refine x_assign ?_ (by kernel_rfl)
      with_reducible refine e_list ?_
      with_reducible refine i_nil ?_
      refine ⟨by size_fits, ?_⟩
      intro aP s29 hP k29 lP
      replace H := H.more k29 hP (P := isL []) (let ⟨n, e⟩ := lP; ⟨_, e, n, rfl⟩)
      refine s_loc H ?_
      intro s30 H
      generalize hrest0 : (z.fdiv 752).fdiv 4 = rest0 at H
      replace H : St g4 L _ ((aP, isL []) :: (L + 6, isC ndv) :: ([(L + 5, isC (some (.bool late))), (L + 4, isC (some (.ref aS))), (L + 3, isC (some (.int j tj))), (L + 2, isC (some (.ref aF))), (L + 1, isC (some (.ref aX))), (aT, isL (rows.map fun r => .ref r.1))] ++ rows.map (fun r => (r.1, isL r.2.1)))) s s30 := H
      refine x_forGK (n := 3) (P := fun q v => ∃ t, v = .str (st [[61, fig (cj / 16), fig (cj % 16)].getD q 0]) t)
        (fun q m own => TBc L aS aF aX aV aT aP sg rows late j tj tf cj q m own)
        (fun m v => m) (fun own v => own.set 1 (L + 6, isC (some v))) H ?_ ⟨[], [], ndv, _, _, rfl, .nil, rfl, by simp, rfl, rfl, hmv, hmf, hmt⟩ ?_ ?_ ?_
      · with_reducible refine e_list ?_
        with_reducible refine i_cons ?_
        with_reducible refine k_str ?_
        intro t31 s31 k31
        with_reducible refine i_cons ?_
        replace H := H.keeps k31
        refine e_sitem ?_
        refine n_loc H.ns hmf ?_
        with_reducible refine e_bin ?_
        with_reducible refine c_bi (H.bs gB) (by k_is) Boot.ord ?_
        with_reducible refine i_cons ?_
        refine e_item ?_
        refine n_cell (c := L + 4) (by kernel_rfl) (H.cell (i := 3) rfl) ?_
        refine n_cell (c := L + 3) (by kernel_rfl) (H.cell (i := 4) rfl) ?_
        refine item_n (v := .str (st [cj]) ts) (gS.at fun o e => H.keep _ o e) hj ets ?_
        with_reducible refine i_nil ?_
        refine ord_c ?_
        intro t32 s32 k32
        with_reducible refine k_int ?_
        intro t33 s33 k33
        refine fdiv_i (by decide) (by decide) ?_
        intro t34 s34 k34
        refine ⟨figs, tf, _, _, fig (cj / 16), rfl, rfl, by rw [fdiv16]; omega, by rw [fdiv16]; omega, by rw [fdiv16, Int.toNat_natCast]; exact figs_get _ (by omega), ?_⟩
        intro t35 s35 k35
        replace H := H.keeps (((k32.trans k33).trans k34).trans k35)
        with_reducible refine i_cons ?_
        refine e_sitem ?_
        refine n_loc H.ns hmf ?_
        with_reducible refine e_bin ?_
        with_reducible refine c_bi (H.bs gB) (by k_is) Boot.ord ?_
        with_reducible refine i_cons ?_
        refine e_item ?_
        refine n_cell (c := L + 4) (by kernel_rfl) (H.cell (i := 3) rfl) ?_
        refine n_cell (c := L + 3) (by kernel_rfl) (H.cell (i := 4) rfl) ?_
        refine item_n (v := .str (st [cj]) ts) (gS.at fun o e => H.keep _ o e) hj ets ?_
        with_reducible refine i_nil ?_
        refine ord_c ?_
        intro t36 s36 k36
        with_reducible refine k_int ?_
        intro t37 s37 k37
        refine fmod_i (by decide) ?_
        intro t38 s38 k38
        refine ⟨figs, tf, _, _, fig (cj % 16), rfl, rfl, by rw [fmod16]; omega, by rw [fmod16]; omega, by rw [fmod16, Int.toNat_natCast]; exact figs_get _ (by omega), ?_⟩
        intro t39 s39 k39
        with_reducible refine i_nil ?_
        refine ⟨by size_fits, ?_⟩
        intro aN s40 hN k40 lN
        have kk : Kp s35 s40 := (((k36.trans k37).trans k38).trans k39).trans k40
        have kk0 : Kp s30 s40 := ((k31.trans ((k32.trans k33).trans (k34.trans k35)))).trans kk
        refine ⟨kk0, srcX_list Rm.hh (plain_list lN) ?_⟩
        intro it s41 h41
        refine ⟨_, h41.mono ?_, ?_⟩
        · intro q v hv
          rcases q with _ | _ | _ | q
          · cases hv; exact ⟨t31, rfl⟩
          · cases hv; exact ⟨t35, rfl⟩
          · cases hv; exact ⟨t39, rfl⟩
          · simp at hv
        · intro a ha
          rw [List.mem_singleton.mp ha]
          have H' := H.keeps (((k36.trans k37).trans k38).trans k39)
          refine ⟨fun q => ?_, fun p hp q => ?_⟩
          · obtain ⟨o, _, _, ho, _⟩ := H'.ns; rw [← q, hN] at ho; cases ho
          · obtain ⟨⟨o, ho, _⟩, _⟩ := H'.owns p hp; rw [q, hN] at ho; cases ho
      · rintro i v g' s31 m own Q' E' ⟨pv, ps, ndv, rz, tr, rfl, _⟩ H' hq
        exact wpAny_assign_Name (s_cell (i := 1) H' (by kernel_rfl) rfl hq)
      · rintro q v m own g5 s31 E' K5 kn5 kr5 hq ⟨tnd, rfl⟩ ⟨pv, ps, ndv, rz, tr, rfl, iP, lps, hps, hmr, hmp, hmv, hmf, hmt⟩ kg5 H
        have hnd : [61, fig (cj / 16), fig (cj % 16)].getD q 0 < 128 := by
          rcases q with _ | _ | _ | q
          · show (61 : Nat) < 128; decide
          · exact fig_lt _ (by omega)
          · exact fig_lt _ (by omega)
          · omega
        generalize hndq : [61, fig (cj / 16), fig (cj % 16)].getD q 0 = nd at H hnd
        replace H : St g5 L m ((aP, isL pv) :: (L + 6, isC (some (.str (st [nd]) tnd))) :: ([(L + 5, isC (some (.bool late))), (L + 4, isC (some (.ref aS))), (L + 3, isC (some (.int j tj))), (L + 2, isC (some (.ref aF))), (L + 1, isC (some (.ref aX))), (aT, isL (rows.map fun r => .ref r.1))] ++ rows.map (fun r => (r.1, isL r.2.1)))) s s31 := H
        replace gS : g5.IsList aS vs.toArray := gS.at fun o e => kg5 _ o e
        replace gB := gB.keeps kg5
        -- fits
        refine wpAny_execs_cons ?_
        refine lcA (n := 5) (P := fun i v => ∃ t, v = .int (i : Int) t) (fun i acc => ∃ is : List Nat, IntsAre acc (is.map fun (k : Nat) => (k : Int)) ∧ is.length ≤ i ∧ ∀ k ∈ is, k < 5 ∧ (sg.getD k 0 = nd ∨ sg.getD k 0 = low nd)) rfl H ?_ ⟨[], .nil, by simp, by simp⟩
        refine e_range (n := 5) (H.bs gB) (by k_is) ?_
        intro ra s32 t32 u32 v32 k32 hr
        refine ⟨k32, src_range Rm.hh hr (by decide) ?_⟩
        intro it s33 hsrc
        replace H := H.keeps k32
        refine ⟨hsrc, ?_, ?_⟩
        · intro C mc i vi acc s34 E34 hi hP hJ hn hm hk
          obtain ⟨ti, rfl⟩ := hP
          have up : ∀ b o, s32.heap.get? b = some o → s34.heap.get? b = some o := fun b o e => hk b o (by simp) e
          have upg : ∀ b o, g5.get? b = some o → s34.heap.get? b = some o := fun b o e => up b o (H.keep b o e)
          obtain ⟨ci, hci⟩ : ∃ c, sg[i]? = some c := ⟨sg[i]'(by omega), by simp⟩
          have hci' : sg.getD i 0 = ci := by rw [List.getD_eq_getElem?_getD, hci]; rfl
          obtain ⟨tsi, etsi⟩ := strs_get iS (i := i) (y := st [ci]) (by simp [hci])
          obtain ⟨is, iJ, lis, his⟩ := hJ
          refine ct_one (t_and ?_)
          refine wpAny_mono (Q := fun _ s' => Kp s34 s') ?_ (fun b s35 k35 => ?_) (fun _ _ y => y)
          · refine t_or (t_cmp (n_loc hn hm ?_))
            refine n_cell (c := L + 3) (by kernel_rfl) ((H.cell (i := 4) rfl).keeps up) ?_
            refine lt_int (tru_b ?_)
            split
            · exact Kp.same _
            · refine wpAny_isTrue_value ?_ rfl
              refine n_cell (c := L + 5) (by kernel_rfl) ((H.cell (i := 2) rfl).keeps up) (tru_b (Kp.same _))
          cases b with
          | false =>
            simp only [Bool.false_eq_true, if_false]
            exact ⟨k35, is, iJ, by omega, his⟩
          | true =>
            simp only [if_true]
            have up5 : ∀ b o, s32.heap.get? b = some o → s35.heap.get? b = some o := fun b o e => k35.get b o (up b o e)
            refine t_cmp ?_
            refine e_item ?_
            refine n_cell (c := L + 4) (by kernel_rfl) ((H.cell (i := 3) rfl).keeps up5) ?_
            refine n_loc (hn.keeps k35.get) hm ?_
            refine item_n (v := .str (st [ci]) tsi) (gS.at fun o e => up5 _ o (H.keep _ o e)) hi etsi ?_
            with_reducible refine e_tuple ?_
            with_reducible refine i_cons ?_
            refine n_cell (c := L + 6) (by kernel_rfl) ((H.cell (i := 1) rfl).keeps up5) ?_
            with_reducible refine i_cons ?_
            with_reducible refine m_call ?_
            refine n_cell (c := L + 6) (by kernel_rfl) ((H.cell (i := 1) rfl).keeps up5) ?_
            with_reducible refine GM.lower ?_
            with_reducible refine cw0 ?_
            refine low_c hnd ?_
            intro t36 s36 k36
            with_reducible refine i_nil ?_
            refine ⟨by size_fits, ?_⟩
            intro aU s37 hU k37 eU
            refine in_tuple_strs (ys := [st [nd], st [low nd]]) ⟨_, eU, rfl, _, rfl⟩ (.cons _ _ (.cons _ _ .nil)) (tru_b ⟨(k35.trans k36).trans k37, ?_⟩)
            have est : ∀ a b : Nat, (st [a] == st [b]) = decide (a = b) := by
              intro a b
              by_cases hab : a = b
              · subst hab; simp
              · have : st [a] ≠ st [b] := fun e => hab (by injection e with e; injection e with e; injection e)
                simp [this, hab]
            simp only [List.any_cons, List.any_nil, est, Bool.or_false]
            by_cases hin : ci = nd ∨ ci = low nd
            · have : (decide (nd = ci) || decide (low nd = ci)) = true := by
                rcases hin with h | h <;> simp [h]
              simp only [this, if_true]
              refine n_loc ((hn.keeps k35.get).keeps (k36.trans k37).get) hm ⟨Kp.same _, is ++ [i], ?_, by simp; omega, ?_⟩
              · rw [List.map_append]; exact ints_snoc iJ
              · intro k hk'
                rcases List.mem_append.mp hk' with h | h
                · exact his k h
                · rw [List.mem_singleton.mp h, hci']; exact ⟨hi, hin⟩
            · have : (decide (nd = ci) || decide (low nd = ci)) = false := by
                rw [Bool.or_eq_false_iff]
                exact ⟨decide_eq_false fun h => hin (.inl h.symm), decide_eq_false fun h => hin (.inr h.symm)⟩
              simp only [this, Bool.false_eq_true, if_false]
              exact ⟨is, iJ, by omega, his⟩
        · intro aI s34 vi hI H34 lI hJ hIL hk34
          obtain ⟨is, iJ, lis, his⟩ := hJ
          dsimp only
          replace H := H34
          clear H34
          have hlv : vi.length = is.length := by rw [iJ.length, List.length_map]
          with_reducible refine x_expr ?_ (by kernel_rfl) (by kernel_rfl)
          with_reducible refine m_call ?_
          refine n_loc H.ns hmp ?_
          refine gm_list slot_list_append type_list_append (H.lst (i := 0) rfl) ?_
          with_reducible refine cw1 ?_
          with_reducible refine i_cons ?_
          refine e_item ?_
          with_reducible refine e_bin ?_
          with_reducible refine e_list ?_
          with_reducible refine i_cons ?_
          refine n_cell (c := L + 6) (by kernel_rfl) (H.cell (i := 1) rfl) ?_
          with_reducible refine i_cons ?_
          with_reducible refine m_call ?_
          refine n_cell (c := L + 6) (by kernel_rfl) (H.cell (i := 1) rfl) ?_
          with_reducible refine GM.lower ?_
          with_reducible refine cw0 ?_
          refine low_c hnd ?_
          intro t36 s36 k36
          with_reducible refine i_nil ?_
          refine ⟨by size_fits, ?_⟩
          intro aL s37 hL k37 lL
          replace H := H.keeps (k36.trans k37)
          refine n_loc H.ns rfl ?_
          refine add_l lL (lI.at fun o e => (k36.trans k37).get _ o e) (by rw [sizeLine_eq]; simp; omega) ?_
          intro aM s38 hM k38 lM
          replace H := H.keeps k38
          with_reducible refine e_bin ?_
          with_reducible refine e_bin ?_
          refine n_loc H.ns hmr ?_
          with_reducible refine k_int ?_
          intro t39 s39 k39
          refine fmod_i (by decide) ?_
          intro t40 s40 k40
          replace H := H.keeps (k39.trans k40)
          with_reducible refine e_bin ?_
          with_reducible refine c_bi (H.bs gB) (by k_is) boot_len ?_
          with_reducible refine i_cons ?_
          refine n_loc H.ns rfl ?_
          with_reducible refine i_nil ?_
          refine len_l ((plain_list lI).at fun o e => (((k36.trans k37).trans k38).trans (k39.trans k40)).get _ o e) (by omega) ?_
          intro t41 s41 k41
          with_reducible refine k_int ?_
          intro t42 s42 k42
          refine add_i ?_
          intro t43 s43 k43
          have hpos : (0 : Int) < (vi.length : Int) + 2 := by omega
          refine fmod_i (by omega) ?_
          intro t44 s44 k44
          have kk : Kp s40 s44 := ((k41.trans k42).trans k43).trans k44
          replace H := H.keeps kk
          have hq1 := Int.fmod_nonneg_of_pos (rz.fmod 7) hpos
          have hq2 := Int.fmod_lt_of_pos (rz.fmod 7) hpos
          obtain ⟨v, p, ev, ip, sp⟩ : ∃ v p, ([Value.str (st [nd]) tnd, .str (st [low nd]) t36] ++ vi)[((rz.fmod 7).fmod ((vi.length : Int) + 2)).toNat]? = some v ∧ PartIs v p ∧ Spell sg nd p := by
            have h8 : ((rz.fmod 7).fmod ((vi.length : Int) + 2)).toNat < vi.length + 2 := by omega
            generalize ((rz.fmod 7).fmod ((vi.length : Int) + 2)).toNat = x at h8
            rcases x with _ | _ | x
            · exact ⟨_, .lit nd, rfl, ⟨tnd, rfl⟩, .inl rfl⟩
            · exact ⟨_, .lit (low nd), rfl, ⟨t36, rfl⟩, .inr (.inl rfl)⟩
            · obtain ⟨k, hk⟩ : ∃ k, is[x]? = some k := ⟨is[x]'(by omega), by simp⟩
              obtain ⟨tk, etk⟩ := ints_at iJ (i := x) (n := (k : Int)) (by simp [hk])
              obtain ⟨hk5, hks⟩ := his k (List.mem_of_getElem? hk)
              exact ⟨_, .ref k, by simpa using etk, ⟨tk, rfl⟩, .inr (.inr ⟨k, hk5, rfl, hks⟩)⟩
          refine item_z ((plain_list lM).at fun o e => ((k39.trans k40).trans kk).get _ o e) hq1 (by omega) ev ?_
          with_reducible refine i_nil ?_
          refine app_own (i := 0) H rfl ?_ ?_
          · rw [parts_len iP, lps, sizeLine_eq]; omega
          intro s45 H
          refine ⟨rfl, ?_⟩
          with_reducible refine x_assign ?_ (by kernel_rfl)
          with_reducible refine e_bin ?_
          refine n_loc H.ns hmr ?_
          with_reducible refine k_int ?_
          intro t46 s46 k46
          refine fdiv_i (by decide) (by decide) ?_
          intro t47 s47 k47
          refine s_loc (H.keeps (k46.trans k47)) ?_
          intro s48 H
          refine x_nil (kn5 _ _ _ H ⟨pv ++ [v], ps ++ [p], _, _, _, rfl, parts_snoc iP ip, by simp [lps], ?_, rfl, hmp, hmv, hmf, hmt⟩).1
          intro k p' hk'
          rcases Nat.lt_or_ge k ps.length with h | h
          · rw [List.getElem?_append_left h] at hk'
            exact hps k p' hk'
          · rw [List.getElem?_append_right h] at hk'
            have : k = q := by
              have := (List.getElem?_eq_some_iff.mp hk').1
              exact (Nat.le_antisymm (Nat.le_of_sub_eq_zero (Nat.lt_one_iff.mp this)) h).trans lps
            subst this
            rw [lps] at hk'
            simp at hk'
            rw [hndq, ← hk']; exact sp
      rintro m own s31 ⟨pv, ps, ndv, rz, tr, rfl, iP, lps, hps, hmr, hmp, hmv, hmf, hmt⟩ H
      with_reducible refine x_expr ?_ (by kernel_rfl) (by kernel_rfl)
      with_reducible refine m_call ?_
      refine n_loc H.ns hmt ?_
      refine gm_list slot_list_append type_list_append (H.lst (i := 7) rfl) ?_
      with_reducible refine cw1 ?_
      with_reducible refine i_cons ?_
      refine n_loc H.ns hmp ?_
      with_reducible refine i_nil ?_
      refine app_own (i := 7) H rfl ?_ ?_
      · rw [List.length_map, lrows, sizeLine_eq]; omega
      intro s32 H
      replace H := H.perm (List.perm_append_comm (l₁ := [_]))
      refine ⟨rfl, x_nil (kn _ _ _ H ⟨rows ++ [(aP, pv, ps)], ndv, some (.bool late), some (.int j tj), tf, ?_, by simp [lrows], ?_, hmv, hmf, hmt⟩).1⟩
      · simp
      · intro k r hk
        rcases Nat.lt_or_ge k rows.length with h | h
        · rw [List.getElem?_append_left h] at hk
          exact hrows k r hk
        · rw [List.getElem?_append_right h] at hk
          have : k = j := by
            have := (List.getElem?_eq_some_iff.mp hk).1
            exact (Nat.le_antisymm (Nat.le_of_sub_eq_zero (Nat.lt_one_iff.mp this)) h).trans lrows
          subst this
          rw [lrows] at hk
          simp at hk
          subst hk
          refine ⟨iP, ?_⟩
          rw [hcj']
          rcases ps with _ | ⟨p0, _ | ⟨p1, _ | ⟨p2, _ | ⟨p3, r⟩⟩⟩⟩
          · simp at lps
          · simp at lps
          · simp at lps
          · exact ⟨p0, p1, p2, rfl, hps 0 p0 rfl, hps 1 p1 rfl, hps 2 p2 rfl⟩
          · simp at lps
    rintro m own s18 ⟨rows, ndv, lv, jv, tf, rfl, lrows, hrows, hmv, hmf, hmt⟩ H
    with_reducible refine x_ret ?_
    with_reducible refine e_tuple ?_
    with_reducible refine i_cons ?_
    refine n_cell (c := L + 4) (by kernel_rfl) (H.cell (i := 2) rfl) ?_
    with_reducible refine i_cons ?_
    refine n_loc H.ns hmt ?_
    with_reducible refine i_nil ?_
    refine ⟨by size_fits, ?_⟩
    intro aR s19 hR k19 eR
    replace H := H.keeps k19
    refine hQ _ _ ⟨(H.base kg).done, aR, aS, aT, sg, rows.map (fun r => r.2.2), vs, rfl, eR, gS.at fun o e => H.keep _ o e, iS, ?_, lsg, hsg, by simp [lrows], ?_⟩
    · refine ⟨rows.map (fun r => r.1), ?_, by simp, ?_⟩
      · have := plain_list (H.lst (i := 6) rfl)
        rw [List.map_map]
        exact this
      · intro i r ps h1 h2
        rw [List.getElem?_map] at h1 h2
        obtain ⟨x, hx, rfl⟩ := Option.map_eq_some_iff.mp h1
        rw [hx] at h2
        cases h2
        refine ⟨x.2.1, ?_, (hrows i x hx).1⟩
        have hm : (x.1, isL x.2.1) ∈ rows.map (fun r => (r.1, isL r.2.1)) := List.mem_map.mpr ⟨x, List.mem_of_getElem? hx, rfl⟩
        obtain ⟨⟨o, ho, n, rfl⟩, _⟩ := H.owns (x.1, isL x.2.1) (List.mem_append_right _ hm)
        exact ⟨_, ho, rfl, n, rfl⟩
    · intro i ps h2
      rw [List.getElem?_map] at h2
      obtain ⟨x, hx, rfl⟩ := Option.map_eq_some_iff.mp h2
      exact (hrows i x hx).2
end Mine
end

-- S2
section
open PySem PySem.W PyProof.Rows PySem.Calls
set_option Elab.async false
set_option linter.unusedVariables false
set_option linter.unusedSimpArgs false
namespace Mine

noncomputable def spel (hs : List Int) (n : Nat) : List Nat := (List.range n).filter fun k => decide (hs.getD k 0 < 6)
noncomputable def txt (sg : List Nat) (tb : List (List Part)) (hs : List Int) (r : Int) : List Nat := ((spel hs 5).map fun k => shw sg tb hs r 5 (.ref k) ++ [46]).flatten
theorem spel_succ (hs : List Int) (n : Nat) : spel hs (n + 1) = spel hs n ++ (if hs.getD n 0 < 6 then [n] else []) := by
  unfold spel
  rw [List.range_succ, List.filter_append]
  congr 1
  by_cases h : hs.getD n 0 < 6 <;> simp [List.filter_cons, -List.getD_eq_getElem?_getD, h]
theorem spel_lt {hs : List Int} {n k : Nat} (h : k ∈ spel hs n) : k < n ∧ hs.getD k 0 < 6 := by
  unfold spel at h
  have := List.mem_filter.mp h
  exact ⟨List.mem_range.mp this.1, of_decide_eq_true this.2⟩

set_option maxRecDepth 100000 in
set_option maxHeartbeats 4000000 in
set_option pp.deepTerms false in
set_option pp.maxSteps 500 in
theorem text_spec {prog : Program} {w : World} {A : Around} {E : Value → Shared → Prop} {s : Shared} {aS aT aH : Addr} {sg : List Nat} {tb : List (List Part)} {hs : List Int} {r : Int} {tr : Tok}
    (Rm : Room A 10 80) (B : Bs w s.heap) (Tb : Tabs s.heap aS aT aH sg tb hs) (hok : ∀ k < 5, hs.getD k 0 < 6 → okP tb hs r 5 (.ref k)) :
    wpAny (model prog w) A (call (.ref 212) [.ref aS, .ref aT, .ref aH, .int r tr]) (fun x s' => Kp s s' ∧ ∃ t', x = .str (st (txt sg tb hs r)) t') E s := by
  have hz : (fun (_ : PySem.W.OpenLaw × (Params → Frag)) => True) (PySem.Challenge.rw_of0070_01, Mine.hd.heap_39) := by (k_fill; trivial)
  refine wpAny_call (enterCR B Rm.low (by k_is) (by k_is) rfl ?_ ?_)
  · exact ⟨.inr ⟨rfl, rfl⟩, .inr ⟨rfl, rfl⟩, .inr ⟨rfl, rfl⟩, .inr ⟨rfl, rfl⟩, trivial⟩
  intro s' A1 DA H
  replace Rm := Rm.deep DA (d' := 9) (u' := 77) (by decide) (by decide)
  clear DA
  replace H : St s.heap s.heap.objs.size [] [(s.heap.objs.size + 4, isC (some (.int r tr))), (s.heap.objs.size + 3, isC (some (.ref aH))), (s.heap.objs.size + 2, isC (some (.ref aT))), (s.heap.objs.size + 1, isC (some (.ref aS)))] s s' := H
  generalize s.heap.objs.size = L at H ⊢
  refine wpAny_execs_cons ?_
  refine lcA (n := 5) (P := fun i v => ∃ t, v = .int (i : Int) t) (fun i acc => IntsAre acc ((spel hs i).map fun (k : Nat) => (k : Int))) rfl H ?_ .nil
  refine e_range (n := 5) (H.bs B) (by k_is) ?_
  intro ra s1 t1 u1 v1 k1 hr
  refine ⟨k1, src_range Rm.hh hr (by decide) ?_⟩
  intro it s2 hsrc
  replace H := H.keeps k1
  refine ⟨hsrc, ?_, ?_⟩
  · intro C m i v acc s3 E3 hi hP hJ hn hm hk
    obtain ⟨tn, rfl⟩ := hP
    have up : ∀ b o, s1.heap.get? b = some o → s3.heap.get? b = some o := fun b o e => hk b o (by simp) e
    have T1 := Tb.keeps fun b o e => up b o (H.keep b o e)
    obtain ⟨vh, hvh, ivh⟩ := T1.H
    obtain ⟨th, eh⟩ := ints_at ivh (i := i) (n := hs.getD i 0) (by rw [List.getD_eq_getElem?_getD]; simp [T1.lH, hi])
    refine ct_one (t_cmp (e_item ?_))
    refine n_cell (c := L + 3) (by kernel_rfl) ((H.cell (i := 1) rfl).keeps up) ?_
    refine n_loc hn hm (item_n (v := .int (hs.getD i 0) th) hvh hi eh ?_)
    refine k_int ?_
    intro t6 s4 k4
    refine lt_int (tru_b ⟨k4, ?_⟩)
    dsimp only
    rw [spel_succ]
    by_cases h6 : hs.getD i 0 < 6
    · simp only [h6, decide_true, if_true]
      refine n_loc (hn.keeps k4.get) hm ⟨Kp.same _, ?_⟩
      rw [List.map_append]
      exact ints_snoc hJ
    · simp only [h6, decide_false, Bool.false_eq_true, if_false, List.append_nil]
      exact hJ
  · intro D s3 ys hD H3 hl3 hJ hDL hk3
    refine x_ret (m_call ?_)
    refine k_str ?_
    intro t0 s4 k4
    with_reducible refine GM.join ?_
    refine cw1 (i_cons ?_)
    replace H := H3.keeps k4
    refine lc (n := ys.length) (P := fun i v => ys[i]? = some v) (fun q acc => StrsAre acc (((spel hs 5).take q).map fun k => st (shw sg tb hs r 5 (.ref k) ++ [46]))) rfl ?_ .nil ?_
    · refine n_loc H.ns rfl ?_
      refine src_list Rm.hh ((plain_list hl3).at fun o e => k4.get _ o e) ?_
      intro it s5 hsrc5
      refine ⟨hsrc5, ?_, ?_⟩
      · intro C m q v acc s6 E6 hq hP hJ6 hn hm hk
        have up : ∀ b o, s4.heap.get? b = some o → s6.heap.get? b = some o := fun b o e => hk b o (by simp) e
        have B6 : Bs w s6.heap := (H.bs B).keeps up
        obtain ⟨z, tz, hz1, rfl⟩ := ints_get hJ hP
        rw [List.getElem?_map] at hz1
        obtain ⟨k, hk1, rfl⟩ := Option.map_eq_some_iff.mp hz1
        obtain ⟨hk5, hk6⟩ := spel_lt (List.mem_of_getElem? hk1)
        refine ct_nil ⟨Kp.same _, ?_⟩
        simp only [if_true]
        refine e_bin (c_fn B6 (by k_is) (by k_is) (i_cons ?_))
        refine n_cell (c := L + 1) (by kernel_rfl) ((H.cell (i := 3) rfl).keeps up) (i_cons ?_)
        refine n_cell (c := L + 2) (by kernel_rfl) ((H.cell (i := 2) rfl).keeps up) (i_cons ?_)
        refine n_cell (c := L + 3) (by kernel_rfl) ((H.cell (i := 1) rfl).keeps up) (i_cons ?_)
        refine n_loc hn hm (i_cons ?_)
        refine n_cell (c := L + 4) (by kernel_rfl) ((H.cell (i := 0) rfl).keeps up) (i_nil ⟨B6, ?_⟩)
        refine wpAny_mono (shown_spec 5 (by omega) _ _ _ (.ref k) _ tr (Rm.le (by decide) (by decide)) B6 (Tb.keeps fun b o e => up b o (H.keep b o e)) (hok k hk5 hk6) ⟨tz, rfl⟩) (fun x s7 h7 => ?_) fun _ _ y => y
        obtain ⟨k7, t7, rfl⟩ := h7
        refine k_str ?_
        intro t8 s8 k8
        have hl5 := shw_len (sg := sg) (hs := hs) (r := r) Tb.three 5 (.ref k)
        refine add_s ?_ ?_
        · have : (Str.ofString ".").length = 1 := rfl
          rw [st_len, this]
          omega
        · intro t9 s9 k9
          refine ⟨(k7.trans k8).trans k9, ?_⟩
          have e9 : Str.ofString "." = st [46] := rfl
          rw [e9, st_append, List.take_add_one, hk1]
          simpa using strs_snoc hJ6
      · intro D6 s6 ys6 hD6 k6 hl6 hJ6
        have e6 : (spel hs 5).take ys.length = spel hs 5 := by
          have := hJ.length
          rw [List.length_map] at this
          rw [this]; simp
        rw [e6] at hJ6
        refine i_nil (join_list (ys := (spel hs 5).map (fun k => st (shw sg tb hs r 5 (.ref k) ++ [46]))) (plain_list hl6) (by simpa using hJ6) ?_ fun t' k => ⟨?_, t', ?_⟩)
        · have h1 : ∀ x ∈ (spel hs 5).map (fun k => st (shw sg tb hs r 5 (.ref k) ++ [46])), x.length ≤ 244 := by
            intro x hx
            obtain ⟨p, _, rfl⟩ := List.mem_map.mp hx
            rw [st_len, List.length_append]
            have hl5 := shw_len (sg := sg) (hs := hs) (r := r) Tb.three 5 (.ref p)
            simp only [List.length_singleton]
            omega
          have h2 := sum_le _ 244 h1
          have h3 : (Str.ofString "").length = 0 := rfl
          have h4 : (spel hs 5).length ≤ 5 := by
            have := List.length_filter_le (fun k => decide (hs.getD k 0 < 6)) (List.range 5)
            simpa [spel] using this
          rw [h3]
          simp only [List.length_map] at h2 ⊢
          omega
        · exact ((H.keeps k6).done).trans (Kp.tok _ _)
        · have := join_st ((spel hs 5).map fun k => shw sg tb hs r 5 (.ref k) ++ [46])
          rw [List.map_map] at this
          rw [txt, ← this]
          rfl
    · have := hJ.length
      have h4 : (spel hs 5).length ≤ 5 := by
        have := List.length_filter_le (fun k => decide (hs.getD k 0 < 6)) (List.range 5)
        simpa [spel] using this
      rw [List.length_map] at this
      rw [sizeLine_eq]
      omega
end Mine
end

-- M2
section
open PySem PySem.W PyProof.Rows PySem.Calls
set_option Elab.async false
set_option linter.unusedVariables false
set_option linter.unusedSimpArgs false
namespace Mine
theorem hex_fig : ∀ d < 16, hexb (fig d) = true ∧ hexb (low (fig d)) = true ∧ hv (fig d) = d ∧ hv (low (fig d)) = d := by decide +kernel
theorem hex_61 : hexb 61 = false := by decide
theorem hex_46 : hexb 46 = false := by decide
theorem scan_ne {c : Nat} {R : List Nat} (h : c ≠ 61) : scan (c :: R) = c :: scan R := by
  rw [scan_cons, if_neg (fun q => h q.1)]
theorem scan_eq {R : List Nat} (h : ¬ (hexb (R.getD 0 0) = true ∧ hexb (R.getD 1 0) = true)) : scan (61 :: R) = 61 :: scan R := by
  rw [scan_cons, if_neg (fun q => h q.2)]
theorem scan_two {c1 c2 : Nat} {R : List Nat} (h1 : hexb c1 = true) (h2 : hexb c2 = true) : scan (61 :: c1 :: c2 :: R) = (hv c1 * 16 + hv c2) :: scan R := by
  rw [scan_cons, if_pos ⟨rfl, by simpa using h1, by simpa using h2⟩]
  simp
noncomputable def hsOf (tb : List (List Part)) : List Int := (List.range 5).map fun k => (ht tb k : Int)
theorem hs_get (tb : List (List Part)) {i : Nat} (hi : i < 5) : (hsOf tb).getD i 0 = (ht tb i : Int) := by
  unfold hsOf
  rw [List.getD_eq_getElem?_getD, List.getElem?_map, List.getElem?_range hi]; rfl
inductive Pt (a a' : List Nat) (c : Nat) : Bool → Prop
  | short : a = [c] → a' = [c] → Pt a a' c true
  | long (t : List Nat) : a = 61 :: t → (∀ R, scan (a ++ R) = a' ++ scan R) → Pt a a' c false
theorem three_short {c1 c2 : Nat} {R : List Nat} (h1 : hexb c1 = true) (h2 : hexb c2 = true) : scan ([61] ++ [c1] ++ [c2] ++ R) = [hv c1 * 16 + hv c2] ++ scan R := by
  simpa using scan_two h1 h2
theorem three_long {a0 a1 a2 a0' a1' a2' : List Nat} {c1 c2 : Nat} {b0 b1 b2 : Bool} {R : List Nat} (p0 : Pt a0 a0' 61 b0) (p1 : Pt a1 a1' c1 b1) (p2 : Pt a2 a2' c2 b2) (h1 : hexb c1 = true) (h2 : hexb c2 = true) (hl : (b0 && b1 && b2) = false) :
    scan (a0 ++ a1 ++ a2 ++ R) = a0' ++ a1' ++ a2' ++ scan R := by
  have n1 : c1 ≠ 61 := by rintro rfl; rw [hex_61] at h1; cases h1
  have n2 : c2 ≠ 61 := by rintro rfl; rw [hex_61] at h2; cases h2
  have s2 : scan (a2 ++ R) = a2' ++ scan R := by
    cases p2 with
    | short e e' => rw [e, e']; exact scan_ne n2
    | long t e h => exact h R
  have s1 : scan (a1 ++ (a2 ++ R)) = a1' ++ (a2' ++ scan R) := by
    cases p1 with
    | short e e' => rw [e, e', List.singleton_append, scan_ne n1, s2]; rfl
    | long t e h => rw [h, s2]
  have s0 : scan (a0 ++ (a1 ++ (a2 ++ R))) = a0' ++ (a1' ++ (a2' ++ scan R)) := by
    cases p0 with
    | long t e h => rw [h, s1]
    | short e e' =>
      rw [e, e', List.singleton_append, scan_eq, s1]
      · rfl
      · cases p1 with
        | long t e1 h => rw [e1]; simp [hex_61]
        | short e1 e1' =>
          cases p2 with
          | short e2 e2' => cases hl
          | long t e2 h => rw [e1, e2]; simp [hex_61]
  simpa [List.append_assoc] using s0
section
variable {sg : List Nat} {tb : List (List Part)} (Gd : Mine.Good sg tb)
include Gd
theorem row_of {k : Nat} (hk : k < 5) : ∃ p0 p1 p2, tb.getD k [] = [p0, p1, p2] ∧ Spell sg 61 p0 ∧ Spell sg (fig (sg.getD k 0 / 16)) p1 ∧ Spell sg (fig (sg.getD k 0 % 16)) p2 := by
  have hlt : k < tb.length := by rw [Gd.lT]; exact hk
  obtain ⟨p0, p1, p2, e, h⟩ := Gd.rows k _ (List.getElem?_eq_getElem hlt)
  refine ⟨p0, p1, p2, ?_, h⟩
  rw [List.getD_eq_getElem?_getD, List.getElem?_eq_getElem hlt]; exact e
theorem hV_of : ∀ k < 5, ∀ j ∈ nee tb k, j < 5 := by
  intro k hk j hj
  obtain ⟨p0, p1, p2, e, h0, h1, h2⟩ := row_of Gd hk
  unfold nee at hj
  rw [e] at hj
  obtain ⟨p, hp, hpj⟩ := List.mem_filterMap.mp hj
  have key : ∀ {need : Nat}, Spell sg need p → j < 5 := by
    intro need hs
    rcases hs with rfl | rfl | ⟨i, hi, rfl, _⟩
    · cases hpj
    · cases hpj
    · cases hpj; exact hi
  simp only [List.mem_cons, List.not_mem_nil, or_false] at hp
  rcases hp with rfl | rfl | rfl
  · exact key h0
  · exact key h1
  · exact key h2
theorem sg_ok {k : Nat} (hk : k < 5) : SignOk (sg.getD k 0) := by
  have hlt : k < sg.length := by rw [Gd.lS]; exact hk
  rw [List.getD_eq_getElem?_getD, List.getElem?_eq_getElem hlt]
  exact Gd.sok _ (List.getElem_mem hlt)
omit Gd in
theorem mem_nee {k : Nat} {ps : List Part} {j : Nat} (e : tb.getD k [] = ps) (h : Part.ref j ∈ ps) : j ∈ nee tb k := by
  unfold nee
  rw [e]
  exact List.mem_filterMap.mpr ⟨.ref j, h, rfl⟩
omit Gd in
theorem shw_short {r f i : Nat} (hi : i < 5) (h : ht tb i ≤ r) : shw sg tb (hsOf tb) (r : Int) f (.ref i) = [sg.getD i 0] := by
  cases f with
  | zero => rfl
  | succ f => rw [shw, if_pos (by rw [hs_get tb hi]; omega)]
omit Gd in
theorem shw_long {r f i : Nat} (hi : i < 5) (h : r < ht tb i) : shw sg tb (hsOf tb) (r : Int) (f + 1) (.ref i) = ((tb.getD i []).map (shw sg tb (hsOf tb) (r : Int) f)).flatten := by
  rw [shw, if_neg (by rw [hs_get tb hi]; omega)]
theorem scan_shw {r : Nat} : ∀ f i, i < 5 → ht tb i < 6 → r < ht tb i → ht tb i ≤ r + f →
    (∃ t, shw sg tb (hsOf tb) (r : Int) f (.ref i) = 61 :: t) ∧ ∀ R, scan (shw sg tb (hsOf tb) (r : Int) f (.ref i) ++ R) = shw sg tb (hsOf tb) ((r + 1 : Nat) : Int) f (.ref i) ++ scan R
  | 0, i, hi, h6, hr, hf => by omega
  | f + 1, i, hi, h6, hr, hf => by
    obtain ⟨p0, p1, p2, e, s0, s1, s2⟩ := row_of Gd hi
    have hV := hV_of Gd
    have hs := sg_ok Gd hi
    have hd1 : sg.getD i 0 / 16 < 16 := by have := hs.2.1; omega
    have hd2 : sg.getD i 0 % 16 < 16 := by omega
    -- one part
    have part : ∀ {need : Nat} {p : Part}, p ∈ [p0, p1, p2] → Spell sg need p → ∃ c b, (c = need ∨ c = low need) ∧ Pt (shw sg tb (hsOf tb) (r : Int) f p) (shw sg tb (hsOf tb) ((r + 1 : Nat) : Int) f p) c b ∧
        (b = true → ∀ j, p = .ref j → ht tb j ≤ r) ∧ (b = false → ∃ j, p = .ref j ∧ r < ht tb j) := by
      intro need p hp hsp
      rcases hsp with rfl | rfl | ⟨j, hj, rfl, hc⟩
      · refine ⟨need, true, .inl rfl, .short ?_ ?_, (fun _ j q => by cases q), (fun q => by cases q)⟩ <;> (cases f <;> rfl)
      · refine ⟨low need, true, .inr rfl, .short ?_ ?_, (fun _ j q => by cases q), (fun q => by cases q)⟩ <;> (cases f <;> rfl)
      · have hjn : j ∈ nee tb i := mem_nee e hp
        have hlt := ht_lt hV hi hjn h6
        by_cases hjr : ht tb j ≤ r
        · refine ⟨sg.getD j 0, true, hc, .short (shw_short hj hjr) (shw_short hj (by omega)), (fun _ j' q => by cases q; exact hjr), (fun q => by cases q)⟩
        · obtain ⟨⟨t, et⟩, h⟩ := scan_shw (r := r) f j hj (by omega) (by omega) (by omega)
          exact ⟨sg.getD j 0, false, hc, .long t et h, fun q => (by cases q), fun _ => ⟨j, rfl, by omega⟩⟩
    obtain ⟨c0, b0, hc0, P0, S0, L0⟩ := part (by simp) s0
    obtain ⟨c1, b1, hc1, P1, S1, L1⟩ := part (by simp) s1
    obtain ⟨c2, b2, hc2, P2, S2, L2⟩ := part (by simp) s2
    have e0 : c0 = 61 := by rcases hc0 with rfl | rfl <;> rfl
    subst e0
    obtain ⟨x1, x2, x3, x4⟩ := hex_fig _ hd1
    obtain ⟨y1, y2, y3, y4⟩ := hex_fig _ hd2
    have hx1 : hexb c1 = true := by rcases hc1 with rfl | rfl <;> assumption
    have hx2 : hexb c2 = true := by rcases hc2 with rfl | rfl <;> assumption
    have hv1 : hv c1 = sg.getD i 0 / 16 := by rcases hc1 with rfl | rfl <;> assumption
    have hv2 : hv c2 = sg.getD i 0 % 16 := by rcases hc2 with rfl | rfl <;> assumption
    have el : shw sg tb (hsOf tb) (r : Int) (f + 1) (.ref i) = shw sg tb (hsOf tb) (r : Int) f p0 ++ shw sg tb (hsOf tb) (r : Int) f p1 ++ shw sg tb (hsOf tb) (r : Int) f p2 := by
      rw [shw_long hi hr, e]; simp
    refine ⟨?_, fun R => ?_⟩
    · rw [el]
      cases P0 with
      | short a a' => rw [a]; exact ⟨_, rfl⟩
      | long t a _ => rw [a]; exact ⟨_, rfl⟩
    · by_cases hb : (b0 && b1 && b2) = false
      · have hgt : r + 1 < ht tb i := by
          have key : ∀ {p : Part}, p ∈ [p0, p1, p2] → (∃ j, p = .ref j ∧ r < ht tb j) → r + 1 < ht tb i := by
            rintro p hp ⟨j, rfl, hj⟩
            have := ht_lt hV hi (mem_nee e hp) h6
            omega
          rcases b0 with _ | _
          · exact key (by simp) (L0 rfl)
          · rcases b1 with _ | _
            · exact key (by simp) (L1 rfl)
            · rcases b2 with _ | _
              · exact key (by simp) (L2 rfl)
              · cases hb
        have er : shw sg tb (hsOf tb) ((r + 1 : Nat) : Int) (f + 1) (.ref i) = shw sg tb (hsOf tb) ((r + 1 : Nat) : Int) f p0 ++ shw sg tb (hsOf tb) ((r + 1 : Nat) : Int) f p1 ++ shw sg tb (hsOf tb) ((r + 1 : Nat) : Int) f p2 := by
          rw [shw_long hi hgt, e]; simp
        rw [el, er]
        exact three_long P0 P1 P2 hx1 hx2 hb
      · have hb' : b0 = true ∧ b1 = true ∧ b2 = true := by
          cases b0 <;> cases b1 <;> cases b2 <;> simp_all
        obtain ⟨rfl, rfl, rfl⟩ := hb'
        have hle : ht tb i ≤ r + 1 := by
          refine (ht_le hV hi).mpr fun j hj => ?_
          unfold nee at hj
          rw [e] at hj
          obtain ⟨p, hp, hpj⟩ := List.mem_filterMap.mp hj
          have hpr : p = .ref j := by
            cases p with
            | lit c => cases hpj
            | ref i' => cases hpj; rfl
          simp only [List.mem_cons, List.not_mem_nil, or_false] at hp
          rcases hp with rfl | rfl | rfl
          · have := S0 rfl j hpr; omega
          · have := S1 rfl j hpr; omega
          · have := S2 rfl j hpr; omega
        rw [el, shw_short hi hle]
        cases P0 with
        | short a0 _ =>
          cases P1 with
          | short a1 _ =>
            cases P2 with
            | short a2 _ =>
              rw [a0, a1, a2, three_short hx1 hx2, hv1, hv2]
              have : sg.getD i 0 / 16 * 16 + sg.getD i 0 % 16 = sg.getD i 0 := by omega
              rw [this]
end
end Mine
end

-- M3
section
open PySem PySem.W PyProof.Rows PySem.Calls
set_option Elab.async false
set_option linter.unusedVariables false
set_option linter.unusedSectionVars false
set_option linter.unusedSimpArgs false
namespace Mine
section
variable {sg : List Nat} {tb : List (List Part)} (Gd : Mine.Good sg tb)
include Gd
theorem scan_all {r : Nat} : ∀ ks : List Nat, (∀ k ∈ ks, k < 5 ∧ ht tb k < 6) →
    scan ((ks.map fun k => shw sg tb (hsOf tb) (r : Int) 5 (.ref k) ++ [46]).flatten) = (ks.map fun k => shw sg tb (hsOf tb) ((r + 1 : Nat) : Int) 5 (.ref k) ++ [46]).flatten
  | [], _ => by simp [scan_nil]
  | k :: ks, h => by
    obtain ⟨hk, h6⟩ := h k (.head _)
    have ih := scan_all (r := r) ks fun k' hk' => h k' (.tail _ hk')
    simp only [List.map_cons, List.flatten_cons, List.append_assoc, List.singleton_append]
    have dot : ∀ R, scan (46 :: R) = 46 :: scan R := fun R => scan_ne (by decide)
    by_cases hr : ht tb k ≤ r
    · rw [shw_short hk hr, shw_short hk (by omega)]
      have : scan ([sg.getD k 0] ++ 46 :: (ks.map fun k => shw sg tb (hsOf tb) (r : Int) 5 (.ref k) ++ [46]).flatten) = [sg.getD k 0] ++ scan (46 :: (ks.map fun k => shw sg tb (hsOf tb) (r : Int) 5 (.ref k) ++ [46]).flatten) := by
        rw [List.singleton_append, List.singleton_append]
        by_cases hc : sg.getD k 0 = 61
        · rw [hc, scan_eq]
          simp [hex_46]
        · exact scan_ne hc
      rw [this, dot, ih]
    · rw [(scan_shw Gd 5 k hk h6 (by omega) (by omega)).2, dot, ih]
omit Gd in
theorem spel_hs {k : Nat} (h : k ∈ spel (hsOf tb) 5) : k < 5 ∧ ht tb k < 6 := by
  obtain ⟨h1, h2⟩ := spel_lt h
  rw [hs_get tb h1] at h2
  exact ⟨h1, by omega⟩
theorem scan_txt (r : Nat) : scan (txt sg tb (hsOf tb) (r : Int)) = txt sg tb (hsOf tb) ((r + 1 : Nat) : Int) := scan_all Gd _ fun k hk => spel_hs hk
theorem fig_ok : ∀ d < 16, SignOk (fig d) ∧ SignOk (low (fig d)) := by
  unfold SignOk; decide
theorem spell_ok {need : Nat} {p : Part} (hn : need = 61 ∨ ∃ d < 16, need = fig d) (h : Spell sg need p) : (∀ c, p = .lit c → SignOk c) ∧ ∀ i, p = .ref i → i < 5 := by
  have h1 : SignOk need ∧ SignOk (low need) := by
    rcases hn with rfl | ⟨d, hd, rfl⟩
    · unfold SignOk; decide
    · exact fig_ok Gd d hd
  rcases h with rfl | rfl | ⟨i, hi, rfl, _⟩
  · exact ⟨fun c q => by cases q; exact h1.1, fun i q => by cases q⟩
  · exact ⟨fun c q => by cases q; exact h1.2, fun i q => by cases q⟩
  · exact ⟨(fun c q => by cases q), (fun i' q => by cases q; exact hi)⟩
theorem row_ok {i : Nat} (hi : i < 5) : (tb.getD i []).length = 3 ∧ ∀ p ∈ tb.getD i [], (∀ c, p = .lit c → SignOk c) ∧ ∀ j, p = .ref j → j < 5 := by
  obtain ⟨p0, p1, p2, e, s0, s1, s2⟩ := row_of Gd hi
  have hs := sg_ok Gd hi
  have hd1 : sg.getD i 0 / 16 < 16 := by have := hs.2.1; omega
  have hd2 : sg.getD i 0 % 16 < 16 := by omega
  rw [e]
  refine ⟨rfl, fun p hp => ?_⟩
  simp only [List.mem_cons, List.not_mem_nil, or_false] at hp
  rcases hp with rfl | rfl | rfl
  · exact spell_ok Gd (.inl rfl) s0
  · exact spell_ok Gd (.inr ⟨_, hd1, rfl⟩) s1
  · exact spell_ok Gd (.inr ⟨_, hd2, rfl⟩) s2
theorem shw_ok {r : Int} : ∀ f p, (∀ c, p = .lit c → SignOk c) → (∀ j, p = .ref j → j < 5) → ∀ c ∈ shw sg tb (hsOf tb) r f p, SignOk c
  | _, .lit c, h1, _, c', hc => by
    cases ‹Nat› <;> (simp only [shw, List.mem_singleton] at hc; rw [hc]; exact h1 c rfl)
  | 0, .ref i, _, h2, c', hc => by
    simp only [shw, List.mem_singleton] at hc
    rw [hc]; exact sg_ok Gd (h2 i rfl)
  | f + 1, .ref i, _, h2, c', hc => by
    rw [shw] at hc
    split at hc
    · rw [List.mem_singleton.mp hc]; exact sg_ok Gd (h2 i rfl)
    · obtain ⟨l, hl, hcl⟩ := List.mem_flatten.mp hc
      obtain ⟨p, hp, rfl⟩ := List.mem_map.mp hl
      obtain ⟨q1, q2⟩ := (row_ok Gd (h2 i rfl)).2 p hp
      exact shw_ok f p q1 q2 c' hcl
theorem txt_ok (r : Int) : ∀ c ∈ txt sg tb (hsOf tb) r, SignOk c := by
  intro c hc
  unfold txt at hc
  obtain ⟨l, hl, hcl⟩ := List.mem_flatten.mp hc
  obtain ⟨k, hk, rfl⟩ := List.mem_map.mp hl
  rcases List.mem_append.mp hcl with h | h
  · exact shw_ok Gd 5 (.ref k) (fun c q => by cases q) (fun j q => by cases q; exact (spel_hs hk).1) c h
  · rw [List.mem_singleton.mp h]; unfold SignOk; decide
omit Gd in
theorem txt_last (r : Int) : txt sg tb (hsOf tb) r = [] ∨ (txt sg tb (hsOf tb) r).getD ((txt sg tb (hsOf tb) r).length - 1) 0 = 46 := by
  unfold txt
  rcases List.eq_nil_or_concat (spel (hsOf tb) 5) with h | ⟨l, k, h⟩
  · left; rw [h]; rfl
  · right
    rw [h]
    simp only [List.concat_eq_append, List.map_append, List.map_cons, List.map_nil, List.flatten_append, List.flatten_cons, List.flatten_nil, List.append_nil]
    rw [← List.append_assoc]
    rw [List.getD_eq_getElem?_getD]
    simp
theorem three_of : ∀ (i : Nat) ps, tb[i]? = some ps → ps.length = 3 := by
  intro i ps h
  obtain ⟨p0, p1, p2, rfl, _⟩ := Gd.rows i ps h
  rfl
theorem txt_len (r : Int) : (txt sg tb (hsOf tb) r).length ≤ 1300 := by
  unfold txt
  have h1 := flat_len (spel (hsOf tb) 5) (fun k => shw sg tb (hsOf tb) r 5 (.ref k) ++ [46]) 244 fun k _ => by
    have := shw_len (sg := sg) (hs := hsOf tb) (r := r) (three_of Gd) 5 (.ref k)
    simp only [List.length_append, List.length_singleton]
    have e : 3 ^ 5 = 243 := by decide
    omega
  have h2 : (spel (hsOf tb) 5).length ≤ 5 := by
    unfold spel
    exact Nat.le_trans (List.length_filter_le _ _) (by simp)
  have h3 : (spel (hsOf tb) 5).length * 244 ≤ 5 * 244 := Nat.mul_le_mul_right _ h2
  omega
theorem okP_of {r : Nat} : ∀ f i, i < 5 → ht tb i < 6 → ht tb i ≤ r + f → okP tb (hsOf tb) (r : Int) f (.ref i)
  | 0, i, hi, h6, hf => ⟨hi, by rw [hs_get tb hi]; omega⟩
  | f + 1, i, hi, h6, hf => by
    refine ⟨hi, ?_⟩
    rw [hs_get tb hi]
    by_cases h : ht tb i ≤ r
    · exact .inl (by omega)
    · refine .inr fun q hq => ?_
      cases q with
      | lit c => cases f <;> trivial
      | ref j =>
        have hj := mem_nee rfl hq
        have := ht_lt (hV_of Gd) hi hj h6
        exact okP_of f j (hV_of Gd i hi j hj) (by omega) (by omega)
theorem shw_same {r : Nat} (hn : ∀ k < 5, ht tb k < 6 → ht tb k ≠ r + 1) : ∀ f i, i < 5 → ht tb i < 6 → shw sg tb (hsOf tb) ((r + 1 : Nat) : Int) f (.ref i) = shw sg tb (hsOf tb) (r : Int) f (.ref i)
  | 0, i, _, _ => rfl
  | f + 1, i, hi, h6 => by
    have := hn i hi h6
    by_cases h : ht tb i ≤ r
    · rw [shw_short hi h, shw_short hi (by omega)]
    · rw [shw_long hi (by omega), shw_long hi (by omega)]
      congr 1
      refine List.map_congr_left fun p hp => ?_
      cases p with
      | lit c => cases f <;> rfl
      | ref j =>
        have hj := mem_nee rfl hp
        have := ht_lt (hV_of Gd) hi hj h6
        exact shw_same hn f j (hV_of Gd i hi j hj) (by omega)
theorem txt_same {r : Nat} (hn : ∀ k < 5, ht tb k < 6 → ht tb k ≠ r + 1) : txt sg tb (hsOf tb) ((r + 1 : Nat) : Int) = txt sg tb (hsOf tb) (r : Int) := by
  unfold txt
  congr 1
  refine List.map_congr_left fun k hk => ?_
  rw [shw_same Gd hn 5 k (spel_hs hk).1 (spel_hs hk).2]
end
end Mine
end

-- Q1
section
open PySem PySem.W PyProof.Rows PySem.Calls
set_option Elab.async false
set_option linter.unusedVariables false
set_option linter.unusedSimpArgs false
namespace Mine
noncomputable def strKeysB (K : Frag) (a : Addr) : Bool := match K.lookup a with
  | some ⟨_, _, .dict es _, _⟩ => es.toList.all fun e => match e.key with | .str _ _ => true | _ => false
  | _ => false
noncomputable def strKeysO (o : Obj) : Bool := match o.data with
  | .dict es _ => es.toList.all fun e => match e.key with | .str _ _ => true | _ => false
  | _ => false
theorem ns_of {K : Frag} {h : Heap} {a : Addr} (X : K.In h) (e : strKeysB K a = true) : ∃ mN, h.Ns a mN ∧ ∀ n v, nsIn K a n = some v → mN n = v := by
  unfold strKeysB at e
  split at e
  · rename_i c d es n sl q
    refine ⟨nsFind es, ⟨_, es, n, X _ _ q, rfl, fun en hen => ?_, fun _ => rfl⟩, fun nm v hv => ?_⟩
    · have := List.all_eq_true.mp e en (Array.mem_toList_iff.mpr hen)
      split at this
      · rename_i x t hk; exact ⟨x, t, hk⟩
      · cases this
    · unfold nsIn at hv
      rw [q] at hv
      dsimp only at hv
      unfold nsFind findBy
      rw [← Array.find?_toList]
      split at hv
      · rename_i en he; cases hv; rw [he]; rfl
      · rename_i he
        split at hv
        · cases hv
        · cases hv; rw [he]; rfl
  · cases e
theorem cls188 {w : World} {g : Heap} (B : Bs w g) : (∃ nm q bs sn sub col dd k0 k1 k2 k3 k5, g.get? 188 = some (excClassObj nm q 188 187 bs [.type "object"] true sn sub false col dd k0 k1 k2 k3 k5 "object.__new__")) ∧
    ∃ mN, g.Ns 187 mN ∧ ∀ n v, nsIn (Mine.hd.heap_39 w.params) 187 n = some v → mN n = v := by
  have hz : (fun (_ : PySem.W.OpenLaw × (Params → Frag)) => True) (PySem.Challenge.rw_of0070_01, Mine.hd.heap_39) := by (k_fill; trivial)
  refine ⟨?_, ns_of B.X ?_⟩
  rotate_left
  · have e : ∃ o, List.lookup 187 (Mine.hd.heap_39 w.params) = some o ∧ strKeysO o = true := ⟨_, by k_is, by kernel_rfl⟩
    obtain ⟨o, e1, e2⟩ := e
    unfold strKeysB
    rw [e1]
    unfold strKeysO at e2
    obtain ⟨oc, od, oda, osl⟩ := o
    cases oda <;> first | exact e2 | cases e2
  have := B.X 188 _ (by k_is)
  exact ⟨_, _, _, _, _, _, _, _, _, _, _, _, this⟩
section
variable {prog : Program} {w : World} {A : Around} {E : Value → Shared → Prop} {s : Shared} {env : Env}
theorem x_get {x : Addr} {mA : Str → Option Value} {name : Str} {v : Value} {expr : Bool} {Q : Value → Shared → Prop} (B : Bs w s.heap) (I : s.heap.Inst x 188 mA) (hv : mA name = some v) (hn : nsIn (Mine.hd.heap_39 w.params) 187 name = some none)
    (hg : nsIn (Mine.hd.heap_39 w.params) 187 (Str.ofString "__getattribute__") = some none)
    (h : ∀ s', Kp s s' → Q v s') (hh : handedOut v = pure v := by rfl) (hB : typeLookup (.type "object") name = pure none := by rw [typeLookup_type, builtinLookup_eq_fast]; kernel_rfl) :
    wpAny (model prog w) A (getAttr (.ref x) name expr) Q E s := by
  obtain ⟨⟨nm, q, bs, sn, sub, col, dd, k0, k1, k2, k3, k5, hC⟩, mN, N, f⟩ := cls188 B
  have k := h _ (Kp.tok s (s.toks + 1))
  obtain ⟨hp, g, d, t, os⟩ := s
  exact load_attr hC N (f _ _ hg) (f _ _ hn) hB I hv hh k
theorem x_meth {x f : Addr} {mA : Str → Option Value} {name : Str} {pl : Sem Bool} {Q : Value × List Value → Shared → Prop} (B : Bs w s.heap) (I : s.heap.Inst x 188 mA) (hv : mA name = none) (hn : nsIn (Mine.hd.heap_39 w.params) 187 name = some (some (.ref f)))
    (hg : nsIn (Mine.hd.heap_39 w.params) 187 (Str.ofString "__getattribute__") = some none) (hg2 : nsIn (Mine.hd.heap_39 w.params) 187 (Str.ofString "__getattr__") = some none)
    (hf : typeIn (Mine.hd.heap_39 w.params) (.ref f) = some (.type "function")) {y : Option Value} (hB : typeLookup (.type "object") name = pure y)
    (h : Q (.ref f, [.ref x]) s) : wpAny (model prog w) A (getMethod (.ref x) name pl) Q E s := by
  obtain ⟨⟨nm, q, bs, sn, sub, col, dd, k0, k1, k2, k3, k5, hC⟩, mN, N, ff⟩ := cls188 B
  have hfo : ∃ o, s.heap.get? f = some o ∧ o.cls = .type "function" := by
    unfold typeIn at hf
    cases q : List.lookup f (Mine.hd.heap_39 w.params) with
    | none => simp [q] at hf
    | some o => exact ⟨o, B.X _ _ q, by simpa [q] using hf⟩
  obtain ⟨o, ho, hc⟩ := hfo
  obtain ⟨hp, g, d, t, os⟩ := s
  exact method_of hC N (ff _ _ hg) (ff _ _ hg2) (ff _ _ hn) ho hc hB I hv h
theorem x_set {x dx : Addr} {mA : Str → Option Value} {name : Str} {v : Value} {ns : List Str} {Q : Unit → Shared → Prop} (B : Bs w s.heap) (hx : s.heap.get? x = some (instObj 188 dx)) (hne : dx ≠ x) (hd : s.heap.Ns1 dx mA) (hn : nsIn (Mine.hd.heap_39 w.params) 187 name = some none)
    (hg : nsIn (Mine.hd.heap_39 w.params) 187 (Str.ofString "__setattr__") = some none) (hxc : x ≠ 188)
    (h : ∀ h' tk, h'.Ns1 dx (fun y => if y = name then some v else mA y) → (∀ b o, b ≠ dx → s.heap.get? b = some o → h'.get? b = some o) → Q () { s with heap := h', toks := tk })
    (hw : Within mA ns) (hsz : ns.length ≤ sizeLine) (hB : typeLookup (.type "object") name = pure none := by rw [typeLookup_type, builtinLookup_eq_fast]; kernel_rfl) :
    wpAny (model prog w) A (setAttr (.ref x) name v) Q E s := by
  obtain ⟨⟨nm, q, bs, sn, sub, col, dd, k0, k1, k2, k3, k5, hC⟩, mN, N, f⟩ := cls188 B
  have I : s.heap.Inst x 188 mA := ⟨_, hx, rfl, (fun c q => by cases q), .inr ⟨dx, rfl, hne, hd⟩⟩
  obtain ⟨hp, g, d, t, os⟩ := s
  refine store_attr PySem.F.store_object hC N (f _ _ hg) (f _ _ hn) hB hxc I (fun h' tk' I' hk hsame => ?_) hw hsz
  obtain ⟨o₁, e₁, c₁, d₁, sl₁, dk₁⟩ := hsame _ hx
  obtain ⟨o', e', c', nc', hd'⟩ := I'
  obtain rfl := Option.some.inj (e₁.symm.trans e')
  have hxx : o₁ = instObj 188 dx := by
    obtain ⟨oc, od, oda, osl⟩ := o₁
    have := dk₁ dx rfl
    simp only at c₁ d₁ sl₁ this
    subst c₁ d₁ sl₁ this
    rfl
  subst hxx
  rcases hd' with ⟨hn0, _⟩ | ⟨d', hd', _, hns'⟩
  · cases hn0
  · cases hd'
    refine h h' tk' hns' fun b o hb e => ?_
    by_cases hbx : b = x
    · subst hbx
      have : some o = some (instObj 188 dx) := e.symm.trans hx
      cases this
      exact e₁
    · exact hk b o hbx (fun o₀ d₀ e₀ ed => by
        obtain rfl := Option.some.inj (hx.symm.trans e₀)
        cases ed; exact hb) e
end
end Mine
end

-- Q2
section
open PySem PySem.W PyProof.Rows PySem.Calls PySem.Builtin PySem.Builtin.ObjectAttr PySem.Builtin.Getset_descriptor
set_option Elab.async false
set_option maxRecDepth 100000
set_option maxHeartbeats 4000000
set_option linter.unusedVariables false
set_option linter.unusedSimpArgs false
namespace Mine
abbrev infoObj (dx : Addr) (sl : Array (Option Value)) : Obj := { cls := .ref 91, dict := some dx, data := .plain, slots := sl }
structure InfoAt (h : Heap) (x : Addr) (sl : Array (Option Value)) : Prop where
  ob : ∃ dx, h.get? x = some (infoObj dx sl) ∧ h.get? dx = some emptyDict
theorem InfoAt.at {h h' : Heap} {x : Addr} {sl : Array (Option Value)} (I : InfoAt h x sl) (k : ∀ b o, h.get? b = some o → h'.get? b = some o) : InfoAt h' x sl :=
  ⟨let ⟨dx, a, b⟩ := I.ob; ⟨dx, k _ _ a, k _ _ b⟩⟩
section
variable {prog : Program} {w : World} {A : Around} {E : Value → Shared → Prop} {s : Shared} {env : Env} {R : Result → Shared → Prop}
theorem n_get {x p : Addr} {sl : Array (Option Value)} {name : Str} {i : Nat} {v : Value} {expr : Bool} {Q : Value → Shared → Prop} (B : Bs w s.heap) (I : InfoAt s.heap x sl)
    (hga : findIn (Mine.hd.heap_39 w.params) (.ref 91) "__getattribute__" = some (some (.builtin "object.__getattribute__")))
    (hgt : findIn (Mine.hd.heap_39 w.params) (.ref 91) "__getattr__" = some none)
    (hf : findObj (Mine.hd.heap_39 w.params) 91 (some emptyDict) name = some (.bind (.builtin "member_descriptor.__get__") (.ref p)))
    (hp : slotIn (Mine.hd.heap_39 w.params) p 91 = some i) (hv : (sl[i]?).join = some v) (h : ∀ s', Kp s s' → Q v s') (hh : handedOut v = pure v := by rfl) :
    wpAny (model prog w) A (getAttr (.ref x) name expr) Q E s := by
  obtain ⟨dx, e1, e2⟩ := I.ob
  have I' : InstAt s.heap x (infoObj dx sl) 91 (some emptyDict) := ⟨e1, rfl, rfl, e2⟩
  refine get_bind B.X I' hga hf hgt (wpAny_call (slot_get (s := { s with toks := s.toks + 1 }) B.X I' hp hv ?_))
  show wpAny _ _ (handedOut v) _ _ _
  rw [hh]
  exact wpAny_pure (h _ (Kp.tok _ _))
theorem slot_upd {x p : Addr} {dx : Addr} {sl : Array (Option Value)} {v : Value} {i : Nat} (B : Bs w s.heap) (I : InstAt s.heap x (infoObj dx sl) 91 (some emptyDict)) (hp : slotIn (Mine.hd.heap_39 w.params) p 91 = some i) (hi : i < 1000)
    (h : R (.ok (.ret .none)) { s with heap := s.heap.update x fun o => { o with slots := (o.slots ++ Array.replicate (i + 1 - o.slots.size) none).setIfInBounds i (some v) } }) :
    codeAny (model prog w) A (.call (.builtin "member_descriptor.__set__") ⟨[.ref p, .ref x, v], []⟩) R s := by
  obtain ⟨n, tn, owner, behind, tb, d, slp, cd, ho, hc, hm, hb, rfl⟩ := slot_of B.X hp
  have X := B.X
  obtain ⟨hh, g, dr, t, os⟩ := s
  have L0 := I.type (M := model prog w)
  have L1 := looks_mroIn (M := model prog w) X hm
  have L2 : Looks (model prog w) hh (Slots.slotNamesOf (.ref 91)) cd.slotNames := (looks_clsIn X hc).andThen .now
  have hx := I.at_
  dsimp only at ho hx L0 L1
  have f0 := looks_field (M := model prog w) ho 0 (v := .str n tn) rfl
  have f1 := looks_field (M := model prog w) ho 1 (v := owner) rfl
  have f3 := looks_field (M := model prog w) ho 3 (v := .builtin "proto.slot#set") rfl
  have f4 := looks_field (M := model prog w) ho 4 (v := .int behind tb) rfl
  refine codeAny_call_builtin KF.slot_mset.plain KF.entry_mset (KF.slot_mset.check _ _ _ _ _ _ _ _ ⟨_, ho, rfl⟩ (KF.args_mset _ _ _) ?_)
  unfold Builtin.«member_descriptor.__set__» descrSet descrStoreThrough descrCheckInstance descrNameAndClass isInstance
  have f5 : Looks (model prog w) hh (descrItself (.ref p)) [.ref p] := ((Looks.ld (part := none) ho).andThen .now).andThen (Looks.of_pure (by kernel_rfl))
  repeat lk
  refine ⟨Code.quiet_builtin _ (by decide +kernel), codeAny_builtin KF.entry_slotset ?_⟩
  unfold Builtin.«proto.slot#set» Slots.target
  repeat lk
  rw [if_neg hb]
  refine wpAny_pure (wpAny_bind ?_)
  unfold setSlotAt
  dsimp only
  rw [if_neg (by rw [sizeLine_eq]; omega)]
  exact wpAny_updatePart hx (wpAny_pure h)
theorem n_set {x p : Addr} {sl sl' : Array (Option Value)} {name : Str} {i : Nat} {v : Value} {Q : Unit → Shared → Prop} (B : Bs w s.heap) (I : InfoAt s.heap x sl)
    (hs : findIn (Mine.hd.heap_39 w.params) (.ref 91) "__setattr__" = some (some (.builtin "object.__setattr__")))
    (hov : plainOver (Mine.hd.heap_39 w.params) 91 = true) (ht : takerIn (Mine.hd.heap_39 w.params) 91 name = some (some (.ref p))) (hT : typeIn (Mine.hd.heap_39 w.params) (.ref p) = some (.type "member_descriptor"))
    (hp : slotIn (Mine.hd.heap_39 w.params) p 91 = some i) (hi : i < 1000) (e : (sl ++ Array.replicate (i + 1 - sl.size) none).setIfInBounds i (some v) = sl')
    (h : ∀ h' tk, InfoAt h' x sl' → Heap.SameBut x s.heap h' → (∀ dx, s.heap.get? x = some (infoObj dx sl) → h'.get? x = some (infoObj dx sl')) → Q () { s with heap := h', toks := tk }) :
    wpAny (model prog w) A (setAttr (.ref x) name v) Q E s := by
  obtain ⟨dx, e1, e2⟩ := I.ob
  have I' : InstAt s.heap x (infoObj dx sl) 91 (some emptyDict) := ⟨e1, rfl, rfl, e2⟩
  refine set_plain B.X I' hs (osa_descr (s := { s with toks := s.toks + 1 }) KF.slot_mset B.X I' hov ht hT (slot_upd (s := { s with toks := s.toks + 1 }) B I' hp hi ?_))
  have hne : dx ≠ x := by rintro rfl; rw [e1] at e2; cases e2
  have up : ∀ d, s.heap.get? x = some (infoObj d sl) → (s.heap.update x fun o : Obj => { o with slots := (o.slots ++ Array.replicate (i + 1 - o.slots.size) none).setIfInBounds i (some v) }).get? x = some (infoObj d sl') := by
    intro d ed
    have := Heap.get?_update_self (fun o : Obj => { o with slots := (o.slots ++ Array.replicate (i + 1 - o.slots.size) none).setIfInBounds i (some v) }) ed rfl
    rw [this]
    show some (infoObj d _) = _
    rw [e]
  exact h _ _ ⟨dx, up dx e1, (Heap.get?_update_other _ _ (Ne.symm hne)).trans e2⟩ (Heap.SameBut.update ..) up
end
end Mine
end

-- Q3
section
open PySem PySem.W PyProof.Rows PySem.Calls
set_option Elab.async false
set_option linter.unusedVariables false
set_option linter.unusedSimpArgs false
namespace Mine
theorem sl_0 (v : Value) : ((#[] : Array (Option Value)) ++ Array.replicate (0 + 1 - (#[] : Array (Option Value)).size) none).setIfInBounds 0 (some v) = #[some v] := by simp
theorem sl_1 (a v : Value) : ((#[some a] : Array (Option Value)) ++ Array.replicate (1 + 1 - (#[some a] : Array (Option Value)).size) none).setIfInBounds 1 (some v) = #[some a, some v] := by simp
theorem sl_2 (a b v : Value) : ((#[some a, some b] : Array (Option Value)) ++ Array.replicate (2 + 1 - (#[some a, some b] : Array (Option Value)).size) none).setIfInBounds 2 (some v) = #[some a, some b, some v] := by simp
theorem sl_n (a b c v : Value) : ((#[some a, some b, some c] : Array (Option Value)) ++ Array.replicate (1 + 1 - (#[some a, some b, some c] : Array (Option Value)).size) none).setIfInBounds 1 (some v) = #[some a, some v, some c] := by simp
theorem St.upd {g : Heap} {L x : Addr} {m : List (Str × Value)} {own : List (Addr × (Obj → Prop))} {s₀ s : Shared} {h' : Heap} {tk : Nat} (H : St g L m own s₀ s) (hs : Heap.SameBut x s.heap h') (hL : x ≠ L) (hg : g.get? x = none) (ho : ∀ p ∈ own, p.1 ≠ x) :
    St g L m own s₀ { s with heap := h', toks := tk } :=
  H.but (wr := [x]) (fun b o hb e => (hs.2 b (fun q => hb (by simp [q]))).trans e) (by simpa using Ne.symm hL) (by simpa using hg) (fun p hp => by simpa using ho p hp)
section
variable {prog : Program} {w : World} {A : Around} {E : Value → Shared → Prop} {s : Shared} {env : Env} {R : Result → Shared → Prop}
theorem x_seta {o value : Expr} {attr : Str} {pos' pos : Pos} {rest : List Stmt} {Q : Flow → Shared → Prop}
    (h : wpAny (model prog w) A (eval value env) (fun v s₁ => wpAny (model prog w) A (eval o env) (fun ov s₂ => wpAny (model prog w) A (setAttr ov attr v) (fun _ s₃ => wpAny (model prog w) A (execs rest env) Q E s₃) E s₂) E s₁) E s)
    (hs : swapsWith value (some (.Attribute o attr pos')) pos.line env = pure false) : wpAny (model prog w) A (execs (.Assign [.Attribute o attr pos'] value pos :: rest) env) Q E s :=
  wpAny_execs_cons (plainObj_wpAny_Assign_Attribute h hs)
theorem Room.under {A : Around} {d u d' u' : Nat} {C : Addr} {vs : List Value} (Rm : Room A d u) (h1 : d' + 1 ≤ d) (h2 : u' + 10 ≤ u) : Room (A.under (.builtin "type.__call__" ⟨.ref C :: vs, []⟩)) d' u' := by
  refine ⟨Rm.hh, ?_, ?_⟩
  · have := Rm.hd
    show A.depth + 1 + d' < _
    omega
  · have := Rm.hu
    have e : (A.under (.builtin "type.__call__" ⟨.ref C :: vs, []⟩)).units ≤ A.units + 10 := by
      show A.units + (Code.builtin "type.__call__" ⟨.ref C :: vs, []⟩).cUnits ≤ _
      have : (Code.builtin "type.__call__" ⟨.ref C :: vs, []⟩).cUnits ≤ 10 := by
        show _ ≤ 10
        first | exact Nat.le_of_ble_eq_true rfl | decide
      omega
    omega
theorem make_info {nd : Value} {Q : Value → Shared → Prop} (Rm : Room A 3 30) (B : Bs w s.heap)
    (h : ∀ x S t s', Kp s s' → s.heap.get? x = none → s.heap.get? S = none → InfoAt s'.heap x #[some nd, some (.int 0 t), some (.ref S)] → (∀ dx, s'.heap.get? x = some (infoObj dx #[some nd, some (.int 0 t), some (.ref S)]) → s.heap.get? dx = none) → s'.heap.PlainList S #[] → Q (.ref x) s') :
    wpAny (model prog w) A (call (.ref 91) [nd]) Q E s := by
  have hz : (fun (_ : PySem.W.OpenLaw × (Params → Frag)) => True) (PySem.Challenge.rw_of0070_01, Mine.hd.heap_39) := by (k_fill; trivial)
  refine wpAny_call ?_
  obtain ⟨hh, g, d, t, os⟩ := s
  refine make_core (init := .ref 87) (makes_of B.X (by k_is)) (looks_findIn B.X (by k_is)) (fun self => bind_fn B.X self (by k_is)) (.inl rfl) ?_
  have k1 : ∀ b o, hh.get? b = some o → ((hh.push emptyDict).push (instObj 91 hh.objs.size)).get? b = some o := fun b o e => Heap.get?_push_of_some _ (Heap.get?_push_of_some _ e)
  have hx : ((hh.push emptyDict).push (instObj 91 hh.objs.size)).get? (hh.objs.size + 1) = some (instObj 91 hh.objs.size) := by heap_get
  have hdx : ((hh.push emptyDict).push (instObj 91 hh.objs.size)).get? hh.objs.size = some emptyDict := by heap_get
  have hn : hh.get? (hh.objs.size + 1) = none := fresh_size _ (by omega)
  have I0 : InfoAt ((hh.push emptyDict).push (instObj 91 hh.objs.size)) (hh.objs.size + 1) #[] := ⟨_, hx, hdx⟩
  have B1 : Bs w ((hh.push emptyDict).push (instObj 91 hh.objs.size)) := B.keeps k1
  generalize hxe : hh.objs.size + 1 = x at hx hn I0 ⊢
  generalize hhe : (hh.push emptyDict).push (instObj 91 hh.objs.size) = h1 at k1 hx hdx I0 B1 ⊢
  refine enterR (s := ⟨h1, g, d, t, os⟩) B1 (by have := Rm.hd; show A.depth + 1 < _; omega) (by k_is) (by k_is) (BindsTo.of_eq rfl) (locs rfl) ?_
  intro s' A1 DA H
  replace Rm := (Rm.under (C := 91) (vs := [nd]) (d' := 2) (u' := 20) (by omega) (by omega)).deep DA (d' := 1) (u' := 17) (by omega) (by omega)
  have hLx : x ≠ h1.objs.size := Nat.ne_of_lt (Heap.lt_size hx)
  replace H : St h1 h1.objs.size [(Str.ofString "node", nd), (Str.ofString "self", .ref x)] [] ⟨h1, g, d, t, os⟩ s' := H
  show wpAny (model prog w) A1 (execs _ (envOf _ _ h1.objs.size _ _)) _ _ _
  generalize h1.objs.size = L at H hLx ⊢
  have I1 := I0.at H.keep
  have Hx0 : ∀ o, h1.get? x = some o → s'.heap.get? x = some o := fun o e => H.keep x o e
  replace H := H.base (g := hideAll h1 [x]) (fun b o e => of_hideAll _ e)
  have gx : (hideAll h1 [x]).get? x = none := hideAll_none _ (by simp)
  have Bb : ∀ s2, St (hideAll h1 [x]) L [(Str.ofString "node", nd), (Str.ofString "self", .ref x)] [] ⟨h1, g, d, t, os⟩ s2 → Bs w s2.heap := by
    intro s2 H2
    refine B.keeps fun b o e => H2.keep b o (hideAll_get _ (k1 b o e) ?_)
    intro q; rw [List.mem_singleton.mp q, hn] at e; cases e
  have old : ∀ b o, hh.get? b = some o → (hideAll h1 [x]).get? b = some o := fun b o e => hideAll_get _ (k1 b o e) (fun q => by rw [List.mem_singleton.mp q, hn] at e; cases e)
  -- self.node = node
  with_reducible refine x_seta ?_ (by kernel_rfl)
  refine n_loc H.ns rfl ?_
  refine n_loc H.ns rfl ?_
  refine n_set (p := 92) (i := 0) (Bb _ H) I1 (by k_is) (by k_is) (by k_is) (by k_is) (by k_is) (by decide) (sl_0 _) ?_
  intro h2 tk2 I2 sb2 u2
  replace H := H.upd (tk := tk2) sb2 hLx gx (by simp)
  -- self.npredecessors = 0
  with_reducible refine x_seta ?_ (by kernel_rfl)
  with_reducible refine k_int ?_
  intro t3 s3 k3
  replace H := H.keeps k3
  replace I2 := I2.at k3.get
  refine n_loc H.ns rfl ?_
  refine n_set (p := 93) (i := 1) (Bb _ H) I2 (by k_is) (by k_is) (by k_is) (by k_is) (by k_is) (by decide) (sl_1 _ _) ?_
  intro h4 tk4 I4 sb4 u4
  replace H := H.upd (tk := tk4) sb4 hLx gx (by simp)
  have old4 : ∀ b o, hh.get? b = some o → h4.get? b = some o := fun b o e => H.keep b o (old b o e)
  -- self.successors = []
  with_reducible refine x_seta ?_ (by kernel_rfl)
  with_reducible refine e_list ?_
  with_reducible refine i_nil ?_
  refine ⟨by size_fits, ?_⟩
  intro S s5 hS k5 lS
  have hSx : S ≠ x := by
    rintro rfl
    obtain ⟨dd, e1, _⟩ := I4.ob
    rw [hS] at e1; cases e1
  replace H := H.keeps k5
  replace I4 := I4.at k5.get
  refine n_loc H.ns rfl ?_
  refine n_set (p := 94) (i := 2) (Bb _ H) I4 (by k_is) (by k_is) (by k_is) (by k_is) (by k_is) (by decide) (sl_2 _ _ _) ?_
  intro h6 tk6 I6 sb6 u6
  replace H := H.upd (tk := tk6) sb6 hLx gx (by simp)
  refine x_nil ?_
  have fin : Q (.ref x) { s5 with heap := h6, toks := tk6 } := by
    refine h x S t3 _ ⟨?_, fun b o e => H.keep b o (old b o e)⟩ hn ?_ I6 ?_ (lS.at fun o e => (sb6.2 S hSx).trans e)
    · obtain ⟨h7, t7, e7⟩ := H.near
      exact ⟨h7, t7, e7⟩
    · cases q : hh.get? S with
      | none => rfl
      | some o => exact absurd (old4 S o q) (by rw [hS]; simp)
    · intro dx edx
      have e6 := u6 _ (k5.get _ _ (u4 _ (k3.get _ _ (u2 _ (Hx0 _ hx)))))
      have : some (infoObj dx #[some nd, some (.int 0 t3), some (.ref S)]) = some (infoObj hh.objs.size #[some nd, some (.int 0 t3), some (.ref S)]) := edx.symm.trans e6
      injection this with this
      injection this with _ this
      injection this with this
      rw [this]
      exact fresh_size _ (Nat.le_refl _)
  exact ⟨rfl, fin⟩
end
end Mine
end

-- Q4
section
open PySem PySem.W PyProof.Rows PySem.Calls
set_option Elab.async false
set_option linter.unusedVariables false
set_option linter.unusedSimpArgs false
namespace Mine
set_option genInjectivity false in
structure Sg where
  X : Addr
  dX : Addr
  N : Addr
  ord : List Nat
  I : Nat → Addr
  S : Nat → Addr
  np : Nat → Int
  sc : Nat → List Nat
  rd : Option (Addr × List Nat)
  po : Int
  fi : Int
  fz : Bool
noncomputable def names4 : List Str := [Str.ofString "_node2info", Str.ofString "_ready_nodes", Str.ofString "_npassedout", Str.ofString "_nfinished"]
noncomputable def rdv : Option (Addr × List Nat) → Value
  | none => .none
  | some p => .ref p.1
noncomputable def Sg.kvs (σ : Sg) : List (Int × Value) := σ.ord.map fun (k : Nat) => ((k : Int), Value.ref (σ.I k))
noncomputable def nums (l : List Nat) : List Int := l.map fun (k : Nat) => (k : Int)
noncomputable def Atts (h : Heap) (σ : Sg) : Prop := ∃ mA, h.Ns1 σ.dX mA ∧ PySem.Within mA names4 ∧ mA (Str.ofString "_node2info") = some (.ref σ.N) ∧ mA (Str.ofString "_ready_nodes") = some (rdv σ.rd) ∧
  (∃ t, mA (Str.ofString "_npassedout") = some (.int σ.po t)) ∧ ∃ t, mA (Str.ofString "_nfinished") = some (.int σ.fi t)
noncomputable def InfoK (h : Heap) (σ : Sg) (k : Nat) : Prop := ∃ t1 t2, InfoAt h (σ.I k) #[some (.int (k : Int) t1), some (.int (σ.np k) t2), some (.ref (σ.S k))]
noncomputable def ListK (h : Heap) (a : Addr) (l : List Nat) : Prop := ∃ vs : List Value, h.PlainList a vs.toArray ∧ IntsAre vs (nums l)
structure Sor (prog : Program) (w : World) (h : Heap) (σ : Sg) : Prop where
  x : h.get? σ.X = some (instObj 188 σ.dX)
  d : Atts h σ
  n : h.DictOf (intKind prog w) σ.N σ.kvs
  i : ∀ k ∈ σ.ord, InfoK h σ k
  s : ∀ k ∈ σ.ord, ListK h (σ.S k) (σ.sc k)
  r : ∀ p, σ.rd = some p → ListK h p.1 p.2
  dN : σ.dX ≠ σ.N
  sS : ∀ j ∈ σ.ord, ∀ k ∈ σ.ord, j ≠ k → σ.S j ≠ σ.S k
  rS : ∀ p, σ.rd = some p → ∀ k ∈ σ.ord, p.1 ≠ σ.S k
  nd : σ.ord.Nodup
  lt : ∀ k ∈ σ.ord, k < 5
  sy : (σ.N == sysModules) = false
  xc : σ.X ≠ 188
noncomputable def Sg.vs (σ : Sg) : List Addr := σ.dX :: σ.N :: (σ.ord.map σ.I ++ (if σ.fz = true then [] else σ.ord.map σ.S) ++ (match σ.rd with | none => [] | some p => [p.1]))
section
variable {prog : Program} {w : World} {h h' : Heap} {σ : Sg}
theorem ListK.at {a : Addr} {l : List Nat} (x : ListK h a l) (k : ∀ o, h.get? a = some o → h'.get? a = some o) : ListK h' a l := let ⟨vs, a, b⟩ := x; ⟨vs, a.at k, b⟩
theorem Sor.keeps (x : Sor prog w h σ) (k : ∀ b o, h.get? b = some o → h'.get? b = some o) : Sor prog w h' σ :=
  ⟨k _ _ x.x, let ⟨mA, a, b⟩ := x.d; ⟨mA, a.keeps k, b⟩, x.n.keep k, fun j hj => let ⟨t1, t2, a⟩ := x.i j hj; ⟨t1, t2, a.at k⟩, fun j hj => (x.s j hj).at fun o e => k _ o e, fun p hp => (x.r p hp).at fun o e => k _ o e, x.dN, x.sS, x.rS, x.nd, x.lt, x.sy, x.xc⟩
theorem Sor.dX_ob (x : Sor prog w h σ) : ∃ o es n, h.get? σ.dX = some o ∧ o.data = .dict es n ∧ es ≠ #[] := by
  obtain ⟨mA, ⟨o, es, ep, ho, hd, _, _, hf⟩, _, h1, _⟩ := x.d
  refine ⟨o, es, ep, ho, hd, ?_⟩
  rintro rfl
  have := hf (Str.ofString "_node2info")
  rw [h1] at this
  cases this
theorem Sor.N_ob (x : Sor prog w h σ) : ∃ o es n, h.get? σ.N = some o ∧ o.data = .dict es n ∧ (σ.ord ≠ [] → es ≠ #[]) := by
  obtain ⟨o, es, ep, ho, _, hd, _, hp, _⟩ := x.n
  refine ⟨o, es, ep, ho, hd, fun hne => ?_⟩
  rintro rfl
  unfold Sg.kvs at hp
  cases hq : σ.ord with
  | nil => exact hne hq
  | cons k r => rw [hq] at hp; cases hp
theorem Sor.I_ob (x : Sor prog w h σ) {k : Nat} (hk : k ∈ σ.ord) : ∃ dx t1 t2, h.get? (σ.I k) = some (infoObj dx #[some (.int (k : Int) t1), some (.int (σ.np k) t2), some (.ref (σ.S k))]) ∧ h.get? dx = some emptyDict := by
  obtain ⟨t1, t2, ⟨dx, a, b⟩⟩ := x.i k hk
  exact ⟨dx, t1, t2, a, b⟩
theorem Sor.I_ne (x : Sor prog w h σ) {j k : Nat} (hj : j ∈ σ.ord) (hk : k ∈ σ.ord) (hjk : j ≠ k) : σ.I j ≠ σ.I k := by
  intro e
  obtain ⟨_, _, _, a, _⟩ := x.I_ob hj
  obtain ⟨_, _, _, b, _⟩ := x.I_ob hk
  rw [e, b] at a
  simp at a
  omega
theorem ListK.ob {a : Addr} {l : List Nat} (x : ListK h a l) : ∃ vs n, h.get? a = some { cls := .type "list", data := .seq vs n } := let ⟨vs, ⟨n, e⟩, _⟩ := x; ⟨vs.toArray, n, e⟩
theorem Sor.dx_ne (x : Sor prog w h σ) {k : Nat} (hk : k ∈ σ.ord) {dx : Addr} (e : h.get? dx = some emptyDict) : dx ≠ σ.dX ∧ dx ≠ σ.N := by
  obtain ⟨o, es, n, a, b, c⟩ := x.dX_ob
  obtain ⟨o', es', n', a', b', c'⟩ := x.N_ob
  constructor
  · rintro rfl; rw [a] at e; cases e; cases b; exact c rfl
  · rintro rfl; rw [a'] at e; cases e; cases b'; exact c' (fun q => by rw [q] at hk; cases hk) rfl
theorem Sor.set_np (x : Sor prog w h σ) {k : Nat} (hk : k ∈ σ.ord) {v : Int} {t1 t2 : Tok} (hI : InfoAt h' (σ.I k) #[some (.int (k : Int) t1), some (.int v t2), some (.ref (σ.S k))]) (sb : Heap.SameBut (σ.I k) h h') :
    Sor prog w h' { σ with np := fun j => if j = k then v else σ.np j } := by
  obtain ⟨dk, _, _, ok, ok'⟩ := x.I_ob hk
  have kp : ∀ b o, b ≠ σ.I k → h.get? b = some o → h'.get? b = some o := fun b o hb e => (sb.2 b hb).trans e
  have nX : σ.X ≠ σ.I k := fun e => by have := x.x; rw [e, ok] at this; cases this
  have ndX : σ.dX ≠ σ.I k := fun e => by obtain ⟨o, es, n, a, b, _⟩ := x.dX_ob; rw [e, ok] at a; cases a; cases b
  have nN : σ.N ≠ σ.I k := fun e => by obtain ⟨o, es, n, a, b, _⟩ := x.N_ob; rw [e, ok] at a; cases a; cases b
  have nL : ∀ {a l}, ListK h a l → a ≠ σ.I k := fun hl e => by obtain ⟨vs, n, q⟩ := hl.ob; rw [e, ok] at q; cases q
  refine ⟨kp _ _ nX x.x, ?_, ?_, fun j hj => ?_, fun j hj => (x.s j hj).at fun o e => kp _ o (nL (x.s j hj)) e, fun p hp => (x.r p hp).at fun o e => kp _ o (nL (x.r p hp)) e, x.dN, x.sS, x.rS, x.nd, x.lt, x.sy, x.xc⟩
  · obtain ⟨mA, a, b⟩ := x.d
    exact ⟨mA, a.at fun o e => kp _ o ndX e, b⟩
  · exact x.n.at fun o e => kp _ o nN e
  · by_cases hjk : j = k
    · subst hjk
      exact ⟨t1, t2, by simpa using hI⟩
    · obtain ⟨dx, u1, u2, a, b⟩ := x.I_ob hj
      refine ⟨u1, u2, dx, ?_, kp _ _ (fun e => ?_) b⟩
      · have := kp _ _ (x.I_ne hj hk hjk) a
        simpa [hjk] using this
      · rw [e, ok] at b; cases b
end
end Mine
end

-- Q5
section
open PySem PySem.W PyProof.Rows PySem.Calls
set_option Elab.async false
set_option linter.unusedVariables false
set_option linter.unusedSimpArgs false
namespace Mine
section
variable {prog : Program} {w : World} {h h' : Heap} {σ : Sg}
theorem Sor.nl (x : Sor prog w h σ) {a : Addr} {l : List Nat} (hl : ListK h a l) : σ.X ≠ a ∧ σ.dX ≠ a ∧ σ.N ≠ a ∧ (∀ k ∈ σ.ord, σ.I k ≠ a) ∧ ∀ dx, h.get? dx = some emptyDict → dx ≠ a := by
  obtain ⟨vs, n, q⟩ := hl.ob
  refine ⟨fun e => ?_, fun e => ?_, fun e => ?_, fun k hk e => ?_, fun dx hd e => ?_⟩
  · have := x.x; rw [e, q] at this; cases this
  · obtain ⟨o, es, n', a, b, _⟩ := x.dX_ob; rw [e, q] at a; cases a; cases b
  · obtain ⟨o, es, n', a, b, _⟩ := x.N_ob; rw [e, q] at a; cases a; cases b
  · obtain ⟨_, _, _, a, _⟩ := x.I_ob hk; rw [e, q] at a; cases a
  · rw [e, q] at hd; simp at hd
theorem Sor.set_sc (x : Sor prog w h σ) {k : Nat} (hk : k ∈ σ.ord) {l : List Nat} (hl : ListK h' (σ.S k) l) (sb : Heap.SameBut (σ.S k) h h') :
    Sor prog w h' { σ with sc := fun j => if j = k then l else σ.sc j } := by
  obtain ⟨n1, n2, n3, n4, n5⟩ := x.nl (x.s k hk)
  have kp : ∀ b o, b ≠ σ.S k → h.get? b = some o → h'.get? b = some o := fun b o hb e => (sb.2 b hb).trans e
  refine ⟨kp _ _ n1 x.x, ?_, x.n.at fun o e => kp _ o n3 e, fun j hj => ?_, fun j hj => ?_, fun p hp => (x.r p hp).at fun o e => kp _ o (x.rS p hp k hk) e, x.dN, x.sS, x.rS, x.nd, x.lt, x.sy, x.xc⟩
  · obtain ⟨mA, a, b⟩ := x.d
    exact ⟨mA, a.at fun o e => kp _ o n2 e, b⟩
  · obtain ⟨dx, u1, u2, a, b⟩ := x.I_ob hj
    exact ⟨u1, u2, dx, kp _ _ (n4 j hj) a, kp _ _ (n5 dx b) b⟩
  · by_cases hjk : j = k
    · subst hjk; simpa using hl
    · have := (x.s j hj).at fun o e => kp _ o (x.sS j hj k hk hjk) e
      simpa [hjk] using this
theorem Sor.set_rd (x : Sor prog w h σ) {a : Addr} {l l' : List Nat} (hr : σ.rd = some (a, l)) (hl : ListK h' a l') (sb : Heap.SameBut a h h') : Sor prog w h' { σ with rd := some (a, l') } := by
  obtain ⟨n1, n2, n3, n4, n5⟩ := x.nl (x.r _ hr)
  have kp : ∀ b o, b ≠ a → h.get? b = some o → h'.get? b = some o := fun b o hb e => (sb.2 b hb).trans e
  refine ⟨kp _ _ n1 x.x, ?_, x.n.at fun o e => kp _ o n3 e, fun j hj => ?_, fun j hj => (x.s j hj).at fun o e => kp _ o (Ne.symm (x.rS _ hr j hj)) e, fun p hp => ?_, x.dN, x.sS, fun p hp => ?_, x.nd, x.lt, x.sy, x.xc⟩
  · obtain ⟨mA, c, b1, b2, b3, b4⟩ := x.d
    rw [hr] at b3
    exact ⟨mA, c.at fun o e => kp _ o n2 e, b1, b2, b3, b4⟩
  · obtain ⟨dx, u1, u2, c, b⟩ := x.I_ob hj
    exact ⟨u1, u2, dx, kp _ _ (n4 j hj) c, kp _ _ (n5 dx b) b⟩
  · cases hp; exact hl
  · cases hp; exact x.rS (a, l) hr
theorem Sor.set_at (x : Sor prog w h σ) {σ' : Sg} (hX : σ' = { σ with rd := σ'.rd, po := σ'.po, fi := σ'.fi }) (hd : Atts h' σ') (kp : ∀ b o, b ≠ σ.dX → h.get? b = some o → h'.get? b = some o)
    (hr : ∀ p, σ'.rd = some p → ListK h p.1 p.2 ∧ ∀ k ∈ σ.ord, p.1 ≠ σ.S k) : Sor prog w h' σ' := by
  obtain ⟨o, es, n, e1, e2, e3⟩ := x.dX_ob
  have nL : ∀ {a l}, ListK h a l → a ≠ σ.dX := fun hl e => by obtain ⟨vs, n, q⟩ := hl.ob; rw [e, e1] at q; cases q; cases e2
  have key : Sor prog w h' { σ with rd := σ'.rd, po := σ'.po, fi := σ'.fi } := by
    refine ⟨kp _ _ (fun e => ?_) x.x, hX ▸ hd, x.n.at fun o e => kp _ o (Ne.symm x.dN) e, fun j hj => ?_, fun j hj => (x.s j hj).at fun o e => kp _ o (nL (x.s j hj)) e, fun p hp => (hr p hp).1.at fun o e => kp _ o (nL (hr p hp).1) e, x.dN, x.sS, fun p hp => (hr p hp).2, x.nd, x.lt, x.sy, x.xc⟩
    · have := x.x; rw [e, e1] at this; cases this; cases e2
    · obtain ⟨dx, u1, u2, c, b⟩ := x.I_ob hj
      refine ⟨u1, u2, dx, kp _ _ (fun e => ?_) c, kp _ _ (x.dx_ne hj b).1 b⟩
      rw [e, e1] at c; cases c; cases e2
  exact hX ▸ key
theorem Sor.more (x : Sor prog w h σ) {k : Nat} (hk : k ∉ σ.ord) (hk5 : k < 5) {a b : Addr} {t1 t2 : Tok} (hI : InfoAt h a #[some (.int (k : Int) t1), some (.int 0 t2), some (.ref b)]) (hS : ListK h b []) (hb : ∀ j ∈ σ.ord, b ≠ σ.S j) (hbr : ∀ p, σ.rd = some p → p.1 ≠ b)
    (hdx : ∀ dx, h.get? a = some (infoObj dx #[some (.int (k : Int) t1), some (.int 0 t2), some (.ref b)]) → dx ≠ σ.N)
    (hN : h'.DictOf (intKind prog w) σ.N (stored σ.kvs (k : Int) (.ref a))) (sb : Heap.SameBut σ.N h h') :
    Sor prog w h' { σ with ord := σ.ord ++ [k], I := fun j => if j = k then a else σ.I j, S := fun j => if j = k then b else σ.S j, np := fun j => if j = k then 0 else σ.np j, sc := fun j => if j = k then [] else σ.sc j } := by
  obtain ⟨o, es, n, e1, e2, e3⟩ := x.N_ob
  have kp : ∀ b o, b ≠ σ.N → h.get? b = some o → h'.get? b = some o := fun b o hb e => (sb.2 b hb).trans e
  have nL : ∀ {a l}, ListK h a l → a ≠ σ.N := fun hl e => by obtain ⟨vs, n, q⟩ := hl.ob; rw [e, e1] at q; cases q; cases e2
  have nI : ∀ {a sl dx}, h.get? a = some (infoObj dx sl) → a ≠ σ.N := fun q e => by rw [e, e1] at q; cases q; cases e2
  have ne : ∀ j ∈ σ.ord, j ≠ k := fun j hj e => hk (e ▸ hj)
  refine ⟨kp _ _ (fun e => ?_) x.x, ?_, ?_, ?_, ?_, fun p hp => (x.r p hp).at fun o e => kp _ o (nL (x.r p hp)) e, x.dN, ?_, ?_, ?_, ?_, x.sy, x.xc⟩
  · have := x.x; rw [e, e1] at this; cases this; cases e2
  · obtain ⟨mA, c, r⟩ := x.d
    exact ⟨mA, c.at fun o e => kp _ o x.dN e, r⟩
  · have ek : stored σ.kvs (k : Int) (.ref a) = Sg.kvs { σ with ord := σ.ord ++ [k], I := fun j => if j = k then a else σ.I j, S := fun j => if j = k then b else σ.S j, np := fun j => if j = k then 0 else σ.np j, sc := fun j => if j = k then [] else σ.sc j } := by
      unfold stored Sg.kvs
      rw [if_neg]
      · rw [List.map_append]
        congr 1
        · refine List.map_congr_left fun j hj => ?_
          simp [ne j hj]
        · simp
      · simp only [List.any_map, List.any_eq_true, Function.comp_def, decide_eq_true_eq, not_exists, not_and]
        intro j hj e
        exact ne j hj (by omega)
    exact ek ▸ hN
  · intro j hj
    simp only [List.mem_append, List.mem_singleton] at hj
    by_cases hjk : j = k
    · subst hjk
      obtain ⟨dx, c1, c2⟩ := hI.ob
      refine ⟨t1, t2, dx, ?_, kp _ _ (hdx dx c1) c2⟩
      simpa using kp _ _ (nI c1) c1
    · obtain hj := hj.resolve_right hjk
      obtain ⟨dx, u1, u2, c, d⟩ := x.I_ob hj
      refine ⟨u1, u2, dx, ?_, kp _ _ (x.dx_ne hj d).2 d⟩
      simpa [hjk] using kp _ _ (nI c) c
  · intro j hj
    simp only [List.mem_append, List.mem_singleton] at hj
    by_cases hjk : j = k
    · subst hjk
      simpa using hS.at fun o e => kp _ o (nL hS) e
    · obtain hj := hj.resolve_right hjk
      simpa [hjk] using (x.s j hj).at fun o e => kp _ o (nL (x.s j hj)) e
  · intro i hi j hj hij
    simp only [List.mem_append, List.mem_singleton] at hi hj
    by_cases hik : i = k
    · subst hik
      have hj' := hj.resolve_right (Ne.symm hij)
      simpa [Ne.symm hij] using hb j hj'
    · have hi' := hi.resolve_right hik
      by_cases hjk : j = k
      · subst hjk
        simpa [hik] using Ne.symm (hb i hi')
      · simpa [hik, hjk] using x.sS i hi' j (hj.resolve_right hjk) hij
  · intro p hp j hj
    simp only [List.mem_append, List.mem_singleton] at hj
    by_cases hjk : j = k
    · subst hjk; simpa using hbr p hp
    · simpa [hjk] using x.rS p hp j (hj.resolve_right hjk)
  · refine List.nodup_append.mpr ⟨x.nd, by simp, ?_⟩
    intro j hj m hm
    rw [List.mem_singleton.mp hm]
    exact ne j hj
  · intro j hj
    simp only [List.mem_append, List.mem_singleton] at hj
    rcases hj with hj | rfl
    · exact x.lt j hj
    · exact hk5
end
end Mine
end

-- Q6
section
open PySem PySem.W PyProof.Rows PySem.Calls
set_option Elab.async false
set_option linter.unusedVariables false
set_option linter.unusedSimpArgs false
namespace Mine
structure Mv (V : List Addr) (s s' : Shared) : Prop where
  near : ∃ h tk, s' = { s with heap := h, toks := tk }
  keep : ∀ b o, b ∉ V → s.heap.get? b = some o → s'.heap.get? b = some o
theorem St.mv {g : Heap} {L : Addr} {m : List (Str × Value)} {own : List (Addr × (Obj → Prop))} {s₀ s s' : Shared} {V : List Addr} (H : St g L m own s₀ s) (k : Mv V s s') (hL : L ∉ V) (hg : ∀ b ∈ V, g.get? b = none) (ho : ∀ p ∈ own, p.1 ∉ V) : St g L m own s₀ s' := by
  obtain ⟨h1, t1, e⟩ := k.near
  have := H.but (h' := h1) (tk := t1) (wr := V) (fun b o hb q => by have := k.keep b o hb q; rw [e] at this; exact this) hL hg ho
  rw [e]; exact this
theorem St.left {V : List Addr} {L : Addr} {m : List (Str × Value)} {own : List (Addr × (Obj → Prop))} {s₀ s : Shared} (H : St (hideAll s₀.heap V) L m own s₀ s) : Mv V s₀ s :=
  ⟨H.near, fun b o hb e => H.keep b o (hideAll_get _ e hb)⟩
section
variable {prog : Program} {w : World} {A : Around} {E : Value → Shared → Prop} {s : Shared} {env : Env} {σ : Sg}
theorem Sor.inst {h : Heap} (x : Sor prog w h σ) : ∃ mA, h.Inst σ.X 188 mA ∧ PySem.Within mA names4 ∧ mA (Str.ofString "_node2info") = some (.ref σ.N) ∧ mA (Str.ofString "_ready_nodes") = some (rdv σ.rd) ∧
    (∃ t, mA (Str.ofString "_npassedout") = some (.int σ.po t)) ∧ ∃ t, mA (Str.ofString "_nfinished") = some (.int σ.fi t) := by
  obtain ⟨mA, a, b⟩ := x.d
  refine ⟨mA, ⟨_, x.x, rfl, fun c q => (by cases q), .inr ⟨_, rfl, fun e => ?_, a⟩⟩, b⟩
  obtain ⟨o, es, n, e1, e2, _⟩ := x.dX_ob
  have := x.x
  rw [← e, e1] at this; cases this; cases e2
theorem at_n2i {expr : Bool} {Q : Value → Shared → Prop} (B : Bs w s.heap) (x : Sor prog w s.heap σ) (h : ∀ s', Kp s s' → Q (.ref σ.N) s') : wpAny (model prog w) A (getAttr (.ref σ.X) (Str.ofString "_node2info") expr) Q E s := by
  have hz : (fun (_ : PySem.W.OpenLaw × (Params → Frag)) => True) (PySem.Challenge.rw_of0070_01, Mine.hd.heap_39) := by (k_fill; trivial)
  obtain ⟨mA, I, _, h1, _⟩ := x.inst
  exact x_get B I h1 (by k_is) (by k_is) h
theorem at_rd {expr : Bool} {Q : Value → Shared → Prop} (B : Bs w s.heap) (x : Sor prog w s.heap σ) (h : ∀ s', Kp s s' → Q (rdv σ.rd) s') : wpAny (model prog w) A (getAttr (.ref σ.X) (Str.ofString "_ready_nodes") expr) Q E s := by
  have hz : (fun (_ : PySem.W.OpenLaw × (Params → Frag)) => True) (PySem.Challenge.rw_of0070_01, Mine.hd.heap_39) := by (k_fill; trivial)
  obtain ⟨mA, I, _, _, h1, _⟩ := x.inst
  refine x_get B I h1 (by k_is) (by k_is) h ?_
  cases σ.rd <;> rfl
theorem at_po {expr : Bool} {Q : Value → Shared → Prop} (B : Bs w s.heap) (x : Sor prog w s.heap σ) (h : ∀ t s', Kp s s' → Q (.int σ.po t) s') : wpAny (model prog w) A (getAttr (.ref σ.X) (Str.ofString "_npassedout") expr) Q E s := by
  have hz : (fun (_ : PySem.W.OpenLaw × (Params → Frag)) => True) (PySem.Challenge.rw_of0070_01, Mine.hd.heap_39) := by (k_fill; trivial)
  obtain ⟨mA, I, _, _, _, ⟨t, h1⟩, _⟩ := x.inst
  exact x_get B I h1 (by k_is) (by k_is) (h t)
theorem at_fi {expr : Bool} {Q : Value → Shared → Prop} (B : Bs w s.heap) (x : Sor prog w s.heap σ) (h : ∀ t s', Kp s s' → Q (.int σ.fi t) s') : wpAny (model prog w) A (getAttr (.ref σ.X) (Str.ofString "_nfinished") expr) Q E s := by
  have hz : (fun (_ : PySem.W.OpenLaw × (Params → Frag)) => True) (PySem.Challenge.rw_of0070_01, Mine.hd.heap_39) := by (k_fill; trivial)
  obtain ⟨mA, I, _, _, _, _, ⟨t, h1⟩⟩ := x.inst
  exact x_get B I h1 (by k_is) (by k_is) (h t)
theorem gm_X {f : Addr} {name : Str} {pl : Sem Bool} {Q : Value × List Value → Shared → Prop} (B : Bs w s.heap) (x : Sor prog w s.heap σ) (hn : nsIn (Mine.hd.heap_39 w.params) 187 name = some (some (.ref f))) (hf : typeIn (Mine.hd.heap_39 w.params) (.ref f) = some (.type "function"))
    (h : Q (.ref f, [.ref σ.X]) s) (hw : name ∉ names4 := by decide) (hB : typeLookup (.type "object") name = pure none := by rw [typeLookup_type, builtinLookup_eq_fast]; kernel_rfl) : wpAny (model prog w) A (getMethod (.ref σ.X) name pl) Q E s := by
  have hz : (fun (_ : PySem.W.OpenLaw × (Params → Frag)) => True) (PySem.Challenge.rw_of0070_01, Mine.hd.heap_39) := by (k_fill; trivial)
  obtain ⟨mA, I, hin, _⟩ := x.inst
  refine x_meth B I ?_ hn (by k_is) (by k_is) hf hB h
  cases q : mA name with
  | none => rfl
  | some v => exact absurd (hin name (by rw [q]; simp)) hw
theorem cf0 {f : Addr} {pos : Pos} {first : List Value} {Q : Value → Shared → Prop} (B : Bs w s.heap) (hk : keepIn (Mine.hd.heap_39 w.params) (.ref f) = true) (h : wpAny (model prog w) A (call (.ref f) first) Q E s) :
    wpAny (model prog w) A (callWith pos (.ref f) first (backTo pos (starEach [] env)) []) Q E s := callWith_K0 B.X hk (by simpa using h)
theorem cf1 {f : Addr} {pos : Pos} {first : List Value} {e : Expr} {rest : List Expr} {Q : Value → Shared → Prop} (B : Bs w s.heap) (hk : keepIn (Mine.hd.heap_39 w.params) (.ref f) = true)
    (h : wpAny (model prog w) A (spliced (backTo pos (starEach (e :: rest) env))) (fun vs s₁ => Bs w s₁.heap ∧ wpAny (model prog w) A (call (.ref f) (first ++ vs)) Q E s₁) E s)
    (he : isStarred e = false := by kernel_rfl) (hpl : rest.all (fun e => !isStarred e) = true := by kernel_rfl) :
    wpAny (model prog w) A (callWith pos (.ref f) first (backTo pos (starEach (e :: rest) env)) []) Q E s :=
  callWith_K B.X hk (wpAny_mono h (fun vs s₁ h₁ => ⟨h₁.1.X, h₁.2⟩) fun _ _ y => y) (star_cons he) (star_any hpl)
theorem c_cls {x : Str} {p pos : Pos} {e : Expr} {rest : List Expr} {C : Addr} {Q : Value → Shared → Prop} (B : Bs w s.heap) (hx : nsIn (Mine.hd.heap_39 w.params) mainGlobals x = some (some (.ref C))) (hk : keepIn (Mine.hd.heap_39 w.params) (.ref C) = true)
    (h : wpAny (model prog w) A (spliced (backTo pos (starEach (e :: rest) env))) (fun vs s₁ => Bs w s₁.heap ∧ wpAny (model prog w) A (call (.ref C) vs) Q E s₁) E s)
    (he : isStarred e = false := by kernel_rfl) (hpl : rest.all (fun e => !isStarred e) = true := by kernel_rfl)
    (hg : env.globals = mainGlobals := by kernel_rfl) (hkk : env.scope.kind = .function := by kernel_rfl) (hkx : env.kindOf x = some .globalImplicit := by kernel_rfl) (hd : (x == ("__debug__" : Str)) = false := by kernel_rfl) :
    wpAny (model prog w) A (eval (.Call (.Name x p) (e :: rest) [] pos) env) Q E s :=
  wpAny_Call_NameR (n_glob B hx (cf1 B hk (wpAny_mono h (fun vs s₁ h₁ => ⟨h₁.1, by simpa using h₁.2⟩) fun _ _ y => y) he hpl) hg hkk hkx hd)
theorem c_cls0 {x : Str} {p pos : Pos} {C : Addr} {Q : Value → Shared → Prop} (B : Bs w s.heap) (hx : nsIn (Mine.hd.heap_39 w.params) mainGlobals x = some (some (.ref C))) (hk : keepIn (Mine.hd.heap_39 w.params) (.ref C) = true)
    (h : wpAny (model prog w) A (call (.ref C) []) Q E s)
    (hg : env.globals = mainGlobals := by kernel_rfl) (hkk : env.scope.kind = .function := by kernel_rfl) (hkx : env.kindOf x = some .globalImplicit := by kernel_rfl) (hd : (x == ("__debug__" : Str)) = false := by kernel_rfl) :
    wpAny (model prog w) A (eval (.Call (.Name x p) [] [] pos) env) Q E s :=
  wpAny_Call_NameR (n_glob B hx (cf0 B hk h) hg hkk hkx hd)
theorem e_attr {o : Expr} {name : Str} {pos : Pos} {Q : Value → Shared → Prop} (h : wpAny (model prog w) A (eval o env) (fun ov s₁ => wpAny (model prog w) A (getAttr ov name true) Q E s₁) E s)
    (hb : ∀ whole, attributeBase o name env whole = whole := by intro _; kernel_rfl) : wpAny (model prog w) A (eval (.Attribute o name pos) env) Q E s := by
  refine Attribute_any_ h ?_
  rw [arm_eval_Attribute, hb]
theorem valueAt_kvs (σ : Sg) (k : Nat) : valueAt σ.kvs (k : Int) = if k ∈ σ.ord then some (.ref (σ.I k)) else none := by
  unfold valueAt Sg.kvs
  induction σ.ord with
  | nil => rfl
  | cons j r ih =>
    rw [List.map_cons, List.find?_cons]
    by_cases h : j = k
    · subst h; simp
    · have : (decide (((j : Int)) = (k : Int))) = false := by simp; omega
      simp only [this, List.mem_cons, ih]
      have : ¬ k = j := fun q => h q.symm
      simp [this]
theorem is_k (k : Nat) (t : Tok) : (intKind prog w).is (k : Int) (.int (k : Int) t) = true := by simp [intKind, Value.isInt]
theorem call_get {k : Nat} {t : Tok} {Q : Value → Shared → Prop} (x : Sor prog w s.heap σ) (h : ∀ s', Kp s s' → Q ((if k ∈ σ.ord then some (Value.ref (σ.I k)) else none).getD .none) s') :
    wpAny (model prog w) A (call (.builtin "dict.get") [.ref σ.N, .int (k : Int) t]) Q E s := by
  refine call_meetsIn F.slot_dict_get x.n.typeIs F.entry_dict_get (F.args_dict_get_2 _ _) (meets_dict_get (intKind prog w) σ.N (is_k k t) x.sy) ⟨_, x.n.mapOf, ?_⟩
  rw [valueAt_kvs]
  exact h _ (Kp.tok _ _)
theorem gm_dict {d : Addr} {name : Str} {id : String} {pl : Sem Bool} {kvs : List (Int × Value)} {Q : Value × List Value → Shared → Prop} (slot : Slot "dict" name id) (hty : typeOf (.builtin id) = pure (.type "method_descriptor")) (hd : s.heap.DictOf (intKind prog w) d kvs)
    (h : Q (.builtin id, [.ref d]) s) : wpAny (model prog w) A (getMethod (.ref d) name pl) Q E s := by
  refine getMethod_builtin hd.typeIs F.plainAttrs_dict slot hty (fun a e => ?_) h
  cases e
  obtain ⟨o, es, ep, ho, hx, _⟩ := hd
  exact ⟨o, ho, hx.2.1⟩
end
end Mine
end

-- Q7
section
open PySem PySem.W PyProof.Rows PySem.Calls
set_option Elab.async false
set_option linter.unusedVariables false
set_option linter.unusedSimpArgs false
namespace Mine
structure Ext (σ σ' : Sg) (k : Nat) : Prop where
  X : σ'.X = σ.X
  dX : σ'.dX = σ.dX
  N : σ'.N = σ.N
  rd : σ'.rd = σ.rd
  po : σ'.po = σ.po
  fi : σ'.fi = σ.fi
  fz : σ'.fz = σ.fz
  ord : σ'.ord = if k ∈ σ.ord then σ.ord else σ.ord ++ [k]
  I : ∀ j ∈ σ.ord, σ'.I j = σ.I j
  S : ∀ j ∈ σ.ord, σ'.S j = σ.S j
  np : ∀ j ∈ σ.ord, σ'.np j = σ.np j
  sc : ∀ j ∈ σ.ord, σ'.sc j = σ.sc j
  np0 : k ∉ σ.ord → σ'.np k = 0
  sc0 : k ∉ σ.ord → σ'.sc k = []
theorem Ext.self {σ : Sg} {k : Nat} (h : k ∈ σ.ord) : Ext σ σ k := ⟨rfl, rfl, rfl, rfl, rfl, rfl, rfl, by simp [h], fun _ _ => rfl, fun _ _ => rfl, fun _ _ => rfl, fun _ _ => rfl, fun q => absurd h q, fun q => absurd h q⟩
structure Aft (prog : Program) (w : World) (s : Shared) (σ σ' : Sg) (s' : Shared) : Prop where
  x : Sor prog w s'.heap σ'
  mv : Mv σ.vs s s'
  nw : ∀ a ∈ σ'.vs, a ∈ σ.vs ∨ s.heap.get? a = none
theorem mem_vs {σ : Sg} {a : Addr} : a ∈ σ.vs ↔ a = σ.dX ∨ a = σ.N ∨ (∃ k ∈ σ.ord, σ.I k = a) ∨ (∃ k ∈ σ.ord, σ.fz = false ∧ σ.S k = a) ∨ ∃ p, σ.rd = some p ∧ p.1 = a := by
  unfold Sg.vs
  cases hf : σ.fz <;> cases σ.rd with
  | none => simp
  | some p => simp [or_assoc, @eq_comm _ p.1 a]
section
variable {prog : Program} {w : World} {A : Around} {E : Value → Shared → Prop} {s : Shared} {env : Env} {σ : Sg}
theorem Sor.vs_in {h : Heap} (x : Sor prog w h σ) {a : Addr} (ha : a ∈ σ.vs) : ∃ o, h.get? a = some o := by
  rcases mem_vs.mp ha with rfl | rfl | ⟨k, hk, rfl⟩ | ⟨k, hk, _, rfl⟩ | ⟨p, hp, rfl⟩
  · obtain ⟨o, _, _, e, _⟩ := x.dX_ob; exact ⟨o, e⟩
  · obtain ⟨o, _, _, e, _⟩ := x.N_ob; exact ⟨o, e⟩
  · obtain ⟨_, _, _, e, _⟩ := x.I_ob hk; exact ⟨_, e⟩
  · obtain ⟨_, _, e⟩ := (x.s k hk).ob; exact ⟨_, e⟩
  · obtain ⟨_, _, e⟩ := (x.r p hp).ob; exact ⟨_, e⟩
theorem Sor.vs_lt {h : Heap} (x : Sor prog w h σ) {a : Addr} (ha : a ∈ σ.vs) : a ≠ h.objs.size := let ⟨_, e⟩ := x.vs_in ha; Nat.ne_of_lt (Heap.lt_size e)
theorem Sor.loc {h h' : Heap} {L : Addr} {m : Str → Option Value} (x : Sor prog w h σ) (hn : h.Ns L m) (hm : ∃ y v, m y = some v) (hd : σ.dX ≠ L) (hN : σ.N ≠ L) (k : ∀ b o, b ≠ L → h.get? b = some o → h'.get? b = some o) : Sor prog w h' σ := by
  obtain ⟨oL, es, ep, eL, dL, _, fL⟩ := hn
  have nL : ∀ {a l}, ListK h a l → a ≠ L := fun hl e => by obtain ⟨vs, n, q⟩ := hl.ob; rw [e, eL] at q; cases q; cases dL
  refine ⟨k _ _ (fun e => ?_) x.x, ?_, x.n.at fun o e => k _ o hN e, fun j hj => ?_, fun j hj => (x.s j hj).at fun o e => k _ o (nL (x.s j hj)) e, fun p hp => (x.r p hp).at fun o e => k _ o (nL (x.r p hp)) e, x.dN, x.sS, x.rS, x.nd, x.lt, x.sy, x.xc⟩
  · have := x.x; rw [e, eL] at this; cases this; cases dL
  · obtain ⟨mA, c, r⟩ := x.d
    exact ⟨mA, c.at fun o e => k _ o hd e, r⟩
  · obtain ⟨dx, u1, u2, c, d⟩ := x.I_ob hj
    refine ⟨u1, u2, dx, k _ _ (fun e => ?_) c, k _ _ (fun e => ?_) d⟩
    · rw [e, eL] at c; cases c; cases dL
    · rw [e, eL] at d; cases d; cases dL
      obtain ⟨y, v, hy⟩ := hm
      have := fL y
      rw [hy] at this; cases this
theorem s_locX {g : Heap} {L : Addr} {m : List (Str × Value)} {own : List (Addr × (Obj → Prop))} {s₀ : Shared} {y : Str} {v : Value} {Q : Unit → Shared → Prop} (H : St g L m own s₀ s) (x : Sor prog w s.heap σ) (hd : σ.dX ≠ L) (hN : σ.N ≠ L)
    (h : ∀ s', St g L ((y, v) :: m) own s₀ s' → Sor prog w s'.heap σ → Q () s') (hm : ∃ y v, m.lookup y = some v) (hL : env.locals = L := by kernel_rfl)
    (hk : env.scope.kind = .function := by kernel_rfl) (hl : env.kindOf y = some .local := by kernel_rfl) : wpAny (model prog w) A (storeName env y v) Q E s :=
  wpAny_storeName_local hl (hL ▸ H.ns) (fun h' hn hs => h _ (H.put (hL ▸ hn) (hL ▸ hs)) (x.loc H.ns hm hd hN fun b o hb e => ((hL ▸ hs : Heap.SameBut L s.heap h').2 b hb).trans e)) (by rw [hk]; rfl)
theorem getn_spec {k : Nat} {t : Tok} (Rm : Room A 6 60) (B : Bs w (hideAll s.heap σ.vs)) (x : Sor prog w s.heap σ) (hk : k < 5) :
    wpAny (model prog w) A (call (.ref 131) [.ref σ.X, .int (k : Int) t]) (fun v s' => ∃ σ', v = .ref (σ'.I k) ∧ Ext σ σ' k ∧ Aft prog w s σ σ' s') E s := by
  have hz : (fun (_ : PySem.W.OpenLaw × (Params → Frag)) => True) (PySem.Challenge.rw_of0070_01, Mine.hd.heap_39) := by (k_fill; trivial)
  refine opqQ fun Q hQ => ?_
  refine wpAny_call (enterR (B.keeps fun b o e => of_hideAll _ e) Rm.low (by k_is) (by k_is) (BindsTo.of_eq rfl) (locs rfl) ?_)
  intro s' A1 DA H
  replace Rm := Rm.deep DA (d' := 5) (u' := 57) (by decide) (by decide)
  have hLV : ∀ a ∈ σ.vs, a ≠ s.heap.objs.size := fun a ha => x.vs_lt ha
  generalize s.heap.objs.size = L at H hLV ⊢
  replace H : St s.heap L [(Str.ofString "node", .int (k : Int) t), (Str.ofString "self", .ref σ.X)] [] s s' := H
  have x1 := x.keeps H.keep
  have gV : ∀ a ∈ σ.vs, (hideAll s.heap σ.vs).get? a = none := fun a ha => hideAll_none _ ha
  replace H := H.base (g := hideAll s.heap σ.vs) (fun b o e => of_hideAll _ e)
  -- if (result := self._node2info.get(node)) is None
  with_reducible refine x_if ?_
  refine t_cmp ?_
  with_reducible refine wpAny_NamedExpr ?_
  with_reducible refine m_call ?_
  with_reducible refine e_attr ?_
  refine n_loc H.ns rfl ?_
  refine at_n2i (H.bs B) x1 ?_
  intro s2 k2
  replace H := H.keeps k2
  replace x1 := x1.keeps k2.get
  refine gm_dict F.slot_dict_get F.type_dict_get x1.n ?_
  with_reducible refine cw1 ?_
  with_reducible refine i_cons ?_
  refine n_loc H.ns rfl ?_
  with_reducible refine i_nil ?_
  refine call_get x1 ?_
  intro s3 k3
  replace H := H.keeps k3
  replace x1 := x1.keeps k3.get
  have hd1 : σ.dX ≠ L := hLV _ (by simp [Sg.vs])
  have hN1 : σ.N ≠ L := hLV _ (by simp [Sg.vs])
  refine wpAny_assign_Name (s_locX H x1 hd1 hN1 ?_ ⟨Str.ofString "self", _, rfl⟩)
  intro s4 H x1
  refine wpAny_Constant_none ?_
  refine is_none (tru_b ?_)
  by_cases hko : k ∈ σ.ord
  · have e1 : ((if k ∈ σ.ord then some (Value.ref (σ.I k)) else none).getD Value.none == Value.none) = false := by simp [hko]
    refine ite_f (e1) ?_
    refine x_nil ?_
    with_reducible refine x_ret ?_
    refine n_loc H.ns rfl ?_
    refine hQ _ _ ⟨σ, by simp [hko], .self hko, x1, H.left, fun a ha => .inl ha⟩
  have e1 : ((if k ∈ σ.ord then some (Value.ref (σ.I k)) else none).getD Value.none == Value.none) = true := by simp [hko]
  refine ite_t (e1) ?_
  refine wpAny_execs_cons (wpAny_Assign_two ?_)
  with_reducible refine c_cls (C := 91) (H.bs B) (by k_is) (by k_is) ?_
  with_reducible refine i_cons ?_
  refine n_loc H.ns rfl ?_
  with_reducible refine i_nil ?_
  refine ⟨H.bs B, make_info (Rm.le (by decide) (by decide)) (H.bs B) ?_⟩
  intro a b t5 s5 k5 ha hb hI hdxn hbl
  have H0 := H.keep
  replace H := H.keeps k5
  have x0 := x1
  replace x1 := x1.keeps k5.get
  refine kas_sub ?_
  with_reducible refine e_attr ?_
  refine n_loc H.ns rfl ?_
  refine at_n2i (H.bs B) x1 ?_
  intro s6 k6
  replace H := H.keeps k6
  replace x1 := x1.keeps k6.get
  have hI5 := hI
  replace hI := hI.at k6.get
  replace hbl := hbl.at fun o e => k6.get _ o e
  refine n_loc H.ns rfl ?_
  have old : ∀ c, s4.heap.get? c = none → s.heap.get? c = none := by
    intro c hc
    cases q : s.heap.get? c with
    | none => rfl
    | some o =>
      by_cases hcv : c ∈ σ.vs
      · obtain ⟨o', e'⟩ := x0.vs_in hcv; rw [hc] at e'; cases e'
      · rw [H0 c o (hideAll_get _ q hcv)] at hc; cases hc
  refine wpAny_setItem_pairs (is_k k t) x1.n ?_ ?_
  · intro h7 hN7 sb7
    have x2 := x1.more hko hk (t1 := t) (t2 := t5) hI ⟨[], hbl, .nil⟩ ?_ ?_ ?_ hN7 sb7
    · have H7 := H.upd (tk := s6.toks + 1) sb7 hN1 (gV _ (by simp [Sg.vs])) (by simp)
      refine wpAny_assign_Name (s_locX H7 x2 hd1 hN1 ?_ ⟨Str.ofString "self", _, rfl⟩)
      intro s8 H8 x8
      refine x_nil ?_
      with_reducible refine x_ret ?_
      refine n_loc H8.ns rfl ?_
      refine hQ _ _ ⟨_, ?_, ?_, x8, H8.left, ?_⟩
      · simp
      · refine ⟨rfl, rfl, rfl, rfl, rfl, rfl, rfl, by simp [hko], fun j hj => ?_, fun j hj => ?_, fun j hj => ?_, fun j hj => ?_, fun _ => by simp, fun _ => by simp⟩
        all_goals
          have : j ≠ k := fun e => hko (e ▸ hj)
          simp [this]
      · intro c hc
        rcases mem_vs.mp hc with rfl | rfl | ⟨j, hj, rfl⟩ | ⟨j, hj, hff, rfl⟩ | ⟨p, hp, rfl⟩
        · exact .inl (by simp [Sg.vs])
        · exact .inl (by simp [Sg.vs])
        · by_cases hjk : j = k
          · subst hjk; exact .inr (by simpa using old a ha)
          · have hj' : j ∈ σ.ord := by simpa [hjk] using hj
            exact .inl (mem_vs.mpr (.inr (.inr (.inl ⟨j, hj', by simp [hjk]⟩))))
        · by_cases hjk : j = k
          · subst hjk; exact .inr (by simpa using old b hb)
          · have hj' : j ∈ σ.ord := by simpa [hjk] using hj
            exact .inl (mem_vs.mpr (.inr (.inr (.inr (.inl ⟨j, hj', hff, by simp [hjk]⟩)))))
        · exact .inl (mem_vs.mpr (.inr (.inr (.inr (.inr ⟨p, hp, rfl⟩)))))
    · intro j hj e
      obtain ⟨vs, n, q⟩ := (x0.s j hj).ob
      rw [← e, hb] at q; cases q
    · intro p hp e
      obtain ⟨vs, n, q⟩ := (x0.r p hp).ob
      rw [e, hb] at q; cases q
    · intro dx edx e
      obtain ⟨d5, f1, f2⟩ := hI5.ob
      have := k6.get _ _ f1
      rw [edx] at this
      injection this with this
      injection this with _ this
      injection this with this
      subst this
      have := hdxn _ f1
      obtain ⟨o, _, _, q, _⟩ := x0.N_ob
      rw [← e, this] at q; cases q
  · unfold Sg.kvs
    rw [List.length_map]
    have := nd_len 5 _ x.nd x.lt
    have : 5 ≤ sizeLine := by decide
    omega
end
end Mine
end

-- Q8
section
open PySem PySem.W PyProof.Rows PySem.Calls
set_option Elab.async false
set_option linter.unusedVariables false
set_option linter.unusedSimpArgs false
namespace Mine
section
variable {prog : Program} {w : World} {A : Around} {s : Shared} {R : Result → Shared → Prop} {f : Addr} {oc : Value} {od : Option Addr} {osl : Array (Option Value)} {name qual : Str} {params : Arguments} {body : List Stmt} {scope : Scope}
  {dV kV doc pm cdv ct : Value} {an : Option Addr}
theorem enterV {args : Args} {front : List (Str × Value)} {nm : Str} {vs : List Value} (B : Bs w s.heap) (hroom : A.depth < recursionLimit)
    (ho : List.lookup f (Mine.hd.heap_39 w.params) = some ⟨oc, od, .func (fnOf name qual params body scope dV kV doc pm an cdv ct), osl⟩) (hcd : codeIn (Mine.hd.heap_39 w.params) cdv qual = true)
    (hbind : bindArgs (fnOf name qual params body scope dV kV doc pm an cdv ct) args = newTuple vs >>= fun t => pure (front ++ [(nm, t)])) (hz : vs.length ≤ sizeLine)
    (hloc : ∀ t, ∀ y ∈ front ++ [(nm, t)], scope.names.lookup y.1 = some .local)
    (h : ∀ D L s' A', Deep A A' → s.heap.get? D = none → s.heap.get? L = none → D ≠ L → (∃ g, (∀ b o, s.heap.get? b = some o → g.get? b = some o) ∧ g.get? D = some { cls := .type "tuple", data := .seq vs.toArray } ∧ St g L ((nm, .ref D) :: front.reverse) [] s s') →
      wpAny (model prog w) A' (execs body (envOf qual scope L f cdv)) (fun fl s' => R (.ok (.ret (match fl with | .ret v => v | _ => .none))) s') (fun _ _ => False) s')
    (hco : scope.isCoroutine = false := by rfl) (hgen : scope.isGenerator = false := by rfl) (hk : scope.kind = .function := by rfl)
    (hcell : ∀ x ∈ scope.names, x.2 ≠ .cell := by decide) : codeAny (model prog w) A (.call (.ref f) args) R s := by
  refine codeAny_call_function (fd := fnOf name qual params body scope dV kV doc pm an cdv ct) (body := body) hroom (B.X _ _ ho) rfl hco hgen rfl (codeRec_of B.X hcd) ?_
  rw [hbind]
  refine wpAny_bind (wpAny_newTuple (wpAny_pure ?_) hz)
  have kp : ∀ b o, s.heap.get? b = some o → (s.heap.push { cls := .type "tuple", data := .seq vs.toArray }).get? b = some o := fun b o e => Heap.get?_push_of_some _ e
  refine wpAny_newFunctionEnv (s := { s with heap := s.heap.push { cls := .type "tuple", data := .seq vs.toArray } }) hcell (hloc _) (fun h₀ hns₀ hsb₀ => ⟨(B.lim.keeps kp).fresh _ hsb₀, codeAny_func ?_⟩) hk
  have k0 : ∀ b o, (s.heap.push { cls := .type "tuple", data := .seq vs.toArray }).get? b = some o → h₀.get? b = some o := fun b o e => hsb₀.extBut b o (Nat.ne_of_lt (Heap.lt_size e)) (Heap.get?_push_of_some _ e)
  refine wpAny_mono (h s.heap.objs.size _ _ _ ⟨rfl, rfl, rfl⟩ (fresh_size _ (Nat.le_refl _)) ?_ ?_ ⟨_, kp, Heap.get?_push_size _ rfl, ⟨⟨h₀, _, rfl⟩, ?_, k0, fresh_size _ (Nat.le_refl _), fun _ hp => (nomatch hp), List.Pairwise.nil⟩⟩) (fun _ _ x => x) fun _ _ x => x.elim
  · refine fresh_size _ ?_
    show s.heap.objs.size ≤ (s.heap.push _).objs.size
    rw [Heap.size_push]; omega
  · show s.heap.objs.size ≠ (s.heap.push _).objs.size
    rw [Heap.size_push]; omega
  · simpa using hns₀
end
end Mine
end

-- Q9
section
open PySem PySem.W PyProof.Rows PySem.Calls
set_option Elab.async false
set_option linter.unusedVariables false
set_option linter.unusedSimpArgs false
namespace Mine
noncomputable def KindOk (o : Obj) : Prop := (∃ T, o.cls = .type T) ∧ (∀ es n, o.data ≠ .dict es n) ∧ ∀ xs n, o.data ≠ .seq xs n
noncomputable def SrcY (prog : Program) (w : World) (A : Around) (xs : List Addr) (n : Nat) (P : Nat → Value → Prop) (s₁ : Shared) (it : Value) (s₂ : Shared) : Prop :=
  ∃ I fp wr S, it = .ref I ∧ Walks prog w A I fp wr n P S ∧ S 0 s₂.heap ∧ Kp s₁ s₂ ∧ (∀ b ∈ wr, s₁.heap.get? b = none) ∧ (∀ b ∈ fp, s₁.heap.get? b = none ∨ b ∈ xs) ∧ (∀ i h, S i h → ∀ b ∈ fp, ∃ o, h.get? b = some o) ∧ ∀ i h, S i h → ∀ b ∈ wr, ∃ o, h.get? b = some o ∧ KindOk o
noncomputable def Gd (g : Heap) (L : Addr) (own : List (Addr × (Obj → Prop))) (σ : Sg) : Prop := ∀ a ∈ σ.vs, g.get? a = none ∧ a ≠ L ∧ ∀ p ∈ own, p.1 ≠ a
section
variable {prog : Program} {w : World} {A : Around} {E : Value → Shared → Prop} {env : Env} {s : Shared} {σ : Sg}
theorem srcY_list (hh : A.handled = none) {a : Addr} {vs : List Value} (hl : s.heap.IsList a vs.toArray) {Q : Value → Shared → Prop}
    (h : ∀ it s₂, SrcY prog w A [a] vs.length (fun i v => vs[i]? = some v) s it s₂ → Q it s₂) : wpAny (model prog w) A (pyIter (.ref a)) Q E s := by
  refine wpAny_pyIter_list hl ?_
  obtain ⟨ol, hol, _⟩ := id hl
  have hne : a ≠ s.heap.objs.size := Nat.ne_of_lt (Heap.lt_size hol)
  have W := Walks.list (prog := prog) (w := w) hh s.heap.objs.size a hne vs.toArray
  rw [List.size_toArray] at W
  have e : (fun (i : Nat) (v : Value) => vs.toArray[i]? = some v) = fun i v => vs[i]? = some v := by funext i v; simp
  rw [e] at W
  refine h _ _ ⟨_, _, _, _, rfl, W, ⟨⟨_, Heap.get?_push_size _ rfl, rfl, rfl⟩, hl.at fun o e => Heap.get?_push_of_some _ e⟩, Kp.push _ _ _, fun b hb => ?_, fun b hb => ?_, fun i h st b hb => ?_, fun i h st b hb => ?_⟩
  · rw [List.mem_singleton.mp hb]; exact fresh_size _ (Nat.le_refl _)
  · rcases List.mem_cons.mp hb with e | hb
    · rw [e]; exact .inl (fresh_size _ (Nat.le_refl _))
    · rw [List.mem_singleton.mp hb]; exact .inr (by simp)
  · rcases List.mem_cons.mp hb with e | hb
    · rw [e]; obtain ⟨o, ho, _⟩ := st.1; exact ⟨o, ho⟩
    · rw [List.mem_singleton.mp hb]; obtain ⟨o, ho, _⟩ := st.2; exact ⟨o, ho⟩
  · rw [List.mem_singleton.mp hb]; obtain ⟨o, ho, hc, hd⟩ := st.1; exact ⟨o, ho, ⟨_, hc⟩, (fun es n q => by rw [hd] at q; cases q), (fun es n q => by rw [hd] at q; cases q)⟩
theorem srcY_tuple (hh : A.handled = none) {a : Addr} {vs : List Value} (hl : s.heap.IsTuple a vs.toArray) {Q : Value → Shared → Prop}
    (h : ∀ it s₂, SrcY prog w A [a] vs.length (fun i v => vs[i]? = some v) s it s₂ → Q it s₂) : wpAny (model prog w) A (pyIter (.ref a)) Q E s := by
  refine wpAny_pyIter_tuple hl ?_
  obtain ⟨ol, hol, _⟩ := id hl
  have hne : a ≠ s.heap.objs.size := Nat.ne_of_lt (Heap.lt_size hol)
  have W := Walks.tuple (prog := prog) (w := w) hh s.heap.objs.size a hne vs.toArray
  rw [List.size_toArray] at W
  have e : (fun (i : Nat) (v : Value) => vs.toArray[i]? = some v) = fun i v => vs[i]? = some v := by funext i v; simp
  rw [e] at W
  refine h _ _ ⟨_, _, _, _, rfl, W, ⟨⟨_, Heap.get?_push_size _ rfl, rfl, rfl⟩, hl.at fun o e => Heap.get?_push_of_some _ e⟩, Kp.push _ _ _, fun b hb => ?_, fun b hb => ?_, fun i h st b hb => ?_, fun i h st b hb => ?_⟩
  · rw [List.mem_singleton.mp hb]; exact fresh_size _ (Nat.le_refl _)
  · rcases List.mem_cons.mp hb with e | hb
    · rw [e]; exact .inl (fresh_size _ (Nat.le_refl _))
    · rw [List.mem_singleton.mp hb]; exact .inr (by simp)
  · rcases List.mem_cons.mp hb with e | hb
    · rw [e]; obtain ⟨o, ho, _⟩ := st.1; exact ⟨o, ho⟩
    · rw [List.mem_singleton.mp hb]; obtain ⟨o, ho, _⟩ := st.2; exact ⟨o, ho⟩
  · rw [List.mem_singleton.mp hb]; obtain ⟨o, ho, hc, hd⟩ := st.1; exact ⟨o, ho, ⟨_, hc⟩, (fun es n q => by rw [hd] at q; cases q), (fun es n q => by rw [hd] at q; cases q)⟩
theorem Sor.wr {h h' : Heap} {wr : List Addr} (x : Sor prog w h σ) (hw : ∀ b ∈ wr, ∃ o, h.get? b = some o ∧ KindOk o) (hv : ∀ a ∈ σ.vs, a ∉ wr) (k : ∀ b o, b ∉ wr → h.get? b = some o → h'.get? b = some o) : Sor prog w h' σ := by
  refine ⟨k _ _ (fun q => ?_) x.x, ?_, x.n.at fun o e => k _ o (hv _ (mem_vs.mpr (.inr (.inl rfl)))) e, fun j hj => ?_, fun j hj => (x.s j hj).at fun o e => k _ o (fun q => by
      obtain ⟨ol, hol, _, _, hns⟩ := hw _ q
      obtain ⟨vs, n, ev⟩ := (x.s j hj).ob
      rw [hol] at ev; cases ev; exact hns _ _ rfl) e,
    fun p hp => (x.r p hp).at fun o e => k _ o (hv _ (mem_vs.mpr (.inr (.inr (.inr (.inr ⟨p, hp, rfl⟩)))))) e, x.dN, x.sS, x.rS, x.nd, x.lt, x.sy, x.xc⟩
  · obtain ⟨o, ho, ⟨T, hT⟩, _⟩ := hw _ q
    have := x.x; rw [ho] at this; cases this; cases hT
  · obtain ⟨mA, c, r⟩ := x.d
    exact ⟨mA, c.at fun o e => k _ o (hv _ (mem_vs.mpr (.inl rfl))) e, r⟩
  · obtain ⟨dx, u1, u2, c, d⟩ := x.I_ob hj
    refine ⟨u1, u2, dx, k _ _ (hv _ (mem_vs.mpr (.inr (.inr (.inl ⟨j, hj, rfl⟩))))) c, k _ _ (fun q => ?_) d⟩
    obtain ⟨o, ho, _, hd, _⟩ := hw _ q
    rw [ho] at d; cases d; exact hd _ _ rfl
theorem x_forX {g : Heap} {L : Addr} {m : List (Str × Value)} {own : List (Addr × (Obj → Prop))} {s₀ : Shared} {y : Str} {tp : Pos} {iter : Expr} {body rest : List Stmt} {pos : Pos} {Q : Flow → Shared → Prop} {n : Nat} {P : Nat → Value → Prop}
    (Inv : Nat → List (Str × Value) → List (Addr × (Obj → Prop)) → Sg → Prop)
    (H : St g L m own s₀ s) (x : Sor prog w s.heap σ) (G : Gd g L own σ)
    (h : wpAny (model prog w) A (eval iter env) (fun xv s₁ => Kp s s₁ ∧ wpAny (model prog w) A (pyIter xv) (fun it s₂ => ∃ xs, SrcY prog w A xs n P s₁ it s₂ ∧ (∀ a ∈ xs, a ≠ L ∧ (∀ p ∈ own, p.1 ≠ a) ∧ a ∉ σ.vs)) E s₁) E s)
    (h0 : Inv 0 m own σ) (hne : ∀ i m own σ, Inv i m own σ → ∃ y v, m.lookup y = some v)
    (turn : ∀ i v m own σ g' s₃ E', i < n → P i v → Inv i m own σ → (∀ b o, g.get? b = some o → g'.get? b = some o) → St g' L ((y, v) :: m) own s₀ s₃ → Sor prog w s₃.heap σ → Gd g' L own σ →
      wpAny (model prog w) A (execs body env) (fun f s₄ => match f with
        | .next | .cont => ∃ m' own' σ', St g' L m' own' s₀ s₄ ∧ Sor prog w s₄.heap σ' ∧ Gd g' L own' σ' ∧ Inv (i + 1) m' own' σ'
        | .brk => False
        | .ret v => Q (.ret v) s₄) E' s₃)
    (fin : ∀ m own σ s', Inv n m own σ → St g L m own s₀ s' → Sor prog w s'.heap σ → Gd g L own σ → wpAny (model prog w) A (execs rest env) Q E s')
    (hL : env.locals = L := by kernel_rfl) (hk : env.scope.kind = .function := by kernel_rfl) (hl : env.kindOf y = some .local := by kernel_rfl)
    (ht : ∀ it v, letOwnedTupleGo (.Name y tp) it v = pure () := by intro _ _; rfl) (hs : ∀ x, foldedSetIterable iter env x = pure x := by intro _; rfl) :
    wpAny (model prog w) A (execs (.For (.Name y tp) iter body [] pos :: rest) env) Q E s := by
  refine wpAny_execs_cons (wpAny_For (wpAny_mono h (fun xv s₁ h₁ => wpAny_mono h₁.2 (fun it s₂ h₂ => ?_) fun _ _ y => y) fun _ _ y => y) hs)
  obtain ⟨xs, ⟨I, fp, wr, S, rfl, W, hst, k₁₂, hw, hfp, hex, hkd⟩, hxs⟩ := h₂
  have H₂ := (H.keeps h₁.1).keeps k₁₂
  have x₁ := x.keeps h₁.1.get
  have x₂ := x₁.keeps k₁₂.get
  have off : ∀ b ∈ fp, b ≠ L ∧ (∀ p ∈ own, p.1 ≠ b) ∧ b ∉ σ.vs := fun b hb => by
    rcases hfp b hb with q | q
    · refine ⟨fun e => ?_, fun p hp e => ?_, fun hv => ?_⟩
      · obtain ⟨o, _, _, ho, _⟩ := (H.keeps h₁.1).ns; rw [← e, q] at ho; cases ho
      · obtain ⟨⟨o, ho, _⟩, _⟩ := (H.keeps h₁.1).owns p hp; rw [e, q] at ho; cases ho
      · obtain ⟨o, ho⟩ := x₁.vs_in hv; rw [q] at ho; cases ho
    · exact hxs b q
  have hgw : ∀ b ∈ wr, g.get? b = none := fun b hb => by
    cases q : g.get? b with
    | none => rfl
    | some o => have := (H.keeps h₁.1).keep _ _ q; rw [hw b hb] at this; cases this
  refine codeAny_forLoop_any (fun k s' => ∃ i m own σ, St g L m own s₀ s' ∧ Sor prog w s'.heap σ ∧ Gd g L own σ ∧ Inv i m own σ ∧ S i s'.heap ∧ (∀ b ∈ fp, b ≠ L ∧ (∀ p ∈ own, p.1 ≠ b) ∧ b ∉ σ.vs) ∧ i ≤ n ∧ k = n + 1 - i) ?_ (n + 1)
    ⟨0, m, own, σ, H₂, x₂, G, h0, hst, off, Nat.zero_le _, rfl⟩
  rintro k s' ⟨i, m, own, σ, H, x, G, hI, hS, hoff, hi, rfl⟩
  by_cases hlt : i < n
  · refine W.item i _ _ _ hlt hS fun v h₁ tk₁ hPv hS₁ hk₁ => ?_
    refine wpAny_of_eq (ht _ v) ?_
    have Hw : St g L m own s₀ { s' with heap := h₁, toks := tk₁ } := H.but hk₁ (fun q => (hoff _ (W.sub _ q)).1 rfl) hgw fun p hp q => (hoff _ (W.sub _ q)).2.1 p hp rfl
    have xw : Sor prog w h₁ σ := x.wr (hkd _ _ hS) (fun a ha q => (hoff _ (W.sub _ q)).2.2 ha) hk₁
    have k3 : ∀ b o, h₁.get? b = some o → b ≠ L → (∀ p ∈ own, p.1 ≠ b) → b ∉ σ.vs → (hideAll h₁ (L :: (own.map (·.1) ++ σ.vs))).get? b = some o := fun b o e h1 h2 h3 => hideAll_get _ e fun q => by
      rcases List.mem_cons.mp q with q | q
      · exact h1 q
      · rcases List.mem_append.mp q with q | q
        · obtain ⟨p, hp, e⟩ := List.mem_map.mp q
          exact h2 p hp e
        · exact h3 q
    have kg : ∀ b o, g.get? b = some o → (hideAll h₁ (L :: (own.map (·.1) ++ σ.vs))).get? b = some o := fun b o e => k3 b o (Hw.keep b o e) (fun q => by rw [q, H.above] at e; cases e) (fun p hp q => by have := (H.owns p hp).2.2; rw [q, e] at this; cases this) (fun q => by have := (G b q).1; rw [e] at this; cases this)
    have Hr : St (hideAll h₁ (L :: (own.map (·.1) ++ σ.vs))) L m own s₀ { s' with heap := h₁, toks := tk₁ } :=
      ⟨Hw.near, Hw.ns, fun b o e => of_hideAll _ e, hideAll_none _ (by simp), fun p hp => ⟨(Hw.owns p hp).1, (Hw.owns p hp).2.1, hideAll_none _ (List.mem_cons_of_mem _ (List.mem_append_left _ (List.mem_map.mpr ⟨p, hp, rfl⟩)))⟩, Hw.apart⟩
    have Gr : Gd (hideAll h₁ (L :: (own.map (·.1) ++ σ.vs))) L own σ := fun a ha => ⟨hideAll_none _ (List.mem_cons_of_mem _ (List.mem_append_right _ ha)), (G a ha).2⟩
    have up : ∀ b ∈ fp, ∃ o, h₁.get? b = some o := hex _ _ hS₁
    refine wpAny_assign_Name (s_locX Hr xw (G _ (mem_vs.mpr (.inl rfl))).2.1 (G _ (mem_vs.mpr (.inr (.inl rfl)))).2.1 (fun s₃ H₃ x₃ => ?_) (hne _ _ _ _ hI) hL hk hl)
    refine wpAny_mono (turn i v m own σ _ s₃ _ hlt hPv hI kg H₃ x₃ Gr) (fun f s₄ h₄ => ?_) fun _ _ y => y
    have next : (∃ m' own' σ', St (hideAll h₁ (L :: (own.map (·.1) ++ σ.vs))) L m' own' s₀ s₄ ∧ Sor prog w s₄.heap σ' ∧ Gd (hideAll h₁ (L :: (own.map (·.1) ++ σ.vs))) L own' σ' ∧ Inv (i + 1) m' own' σ') →
        ∃ m_1, m_1 < n + 1 - i ∧ ∃ i m own σ, St g L m own s₀ s₄ ∧ Sor prog w s₄.heap σ ∧ Gd g L own σ ∧ Inv i m own σ ∧ S i s₄.heap ∧ (∀ b ∈ fp, b ≠ L ∧ (∀ p ∈ own, p.1 ≠ b) ∧ b ∉ σ.vs) ∧ i ≤ n ∧ m_1 = n + 1 - i := by
      rintro ⟨m', own', σ', H₄, x₄, G₄, hI₄⟩
      have kf : ∀ b ∈ fp, ∀ o, h₁.get? b = some o → (hideAll h₁ (L :: (own.map (·.1) ++ σ.vs))).get? b = some o := fun b hb o e => k3 b o e (hoff b hb).1 (hoff b hb).2.1 (hoff b hb).2.2
      have no : ∀ a, (hideAll h₁ (L :: (own.map (·.1) ++ σ.vs))).get? a = none → g.get? a = none := fun a e => by
        cases q : g.get? a with
        | none => rfl
        | some o => rw [kg _ _ q] at e; cases e
      refine ⟨n + 1 - (i + 1), by omega, i + 1, m', own', σ', H₄.base kg, x₄, fun a ha => ⟨no a (G₄ a ha).1, (G₄ a ha).2⟩, hI₄, W.frame _ _ _ hS₁ fun b hb o e => H₄.keep b o (kf b hb o e), fun b hb => ?_, hlt, rfl⟩
      obtain ⟨o, ho⟩ := up b hb
      refine ⟨(hoff b hb).1, fun p hp q => ?_, fun q => ?_⟩
      · have := (H₄.owns p hp).2.2
        rw [q, kf b hb o ho] at this; cases this
      · have := (G₄ b q).1
        rw [kf b hb o ho] at this; cases this
    cases f with
    | next => exact next h₄
    | cont => exact next h₄
    | brk => exact h₄.elim
    | ret v => exact h₄
  · have hin : i = n := by omega
    subst hin
    refine W.done _ _ _ hS fun h₁ tk₁ hk₁ => wpAny_execs_nil ?_
    exact fin m own σ _ hI (H.but hk₁ (fun q => (hoff _ (W.sub _ q)).1 rfl) hgw fun p hp q => (hoff _ (W.sub _ q)).2.1 p hp rfl) (x.wr (hkd _ _ hS) (fun a ha q => (hoff _ (W.sub _ q)).2.2 ha) hk₁) G
theorem x_forXK {g : Heap} {L : Addr} {m : List (Str × Value)} {own : List (Addr × (Obj → Prop))} {s₀ : Shared} {y : Str} {tp : Pos} {iter : Expr} {body rest : List Stmt} {pos : Pos} {Q : Flow → Shared → Prop} {n : Nat} {P : Nat → Value → Prop}
    (Inv : Nat → List (Str × Value) → List (Addr × (Obj → Prop)) → Sg → Prop)
    (H : St g L m own s₀ s) (x : Sor prog w s.heap σ) (G : Gd g L own σ)
    (h : wpAny (model prog w) A (eval iter env) (fun xv s₁ => Kp s s₁ ∧ wpAny (model prog w) A (pyIter xv) (fun it s₂ => ∃ xs, SrcY prog w A xs n P s₁ it s₂ ∧ (∀ a ∈ xs, a ≠ L ∧ (∀ p ∈ own, p.1 ≠ a) ∧ a ∉ σ.vs)) E s₁) E s)
    (h0 : Inv 0 m own σ) (hne : ∀ i m own σ, Inv i m own σ → ∃ y v, m.lookup y = some v)
    (turn : ∀ i v m own σ g' s₃ E' (K : Flow → Shared → Prop), (∀ m' own' σ' s₄, St g' L m' own' s₀ s₄ → Sor prog w s₄.heap σ' → Gd g' L own' σ' → Inv (i + 1) m' own' σ' → K .next s₄ ∧ K .cont s₄) → (∀ v s₄, Q (.ret v) s₄ → K (.ret v) s₄) →
      i < n → P i v → Inv i m own σ → (∀ b o, g.get? b = some o → g'.get? b = some o) → St g' L ((y, v) :: m) own s₀ s₃ → Sor prog w s₃.heap σ → Gd g' L own σ →
      wpAny (model prog w) A (execs body env) K E' s₃)
    (fin : ∀ m own σ s', Inv n m own σ → St g L m own s₀ s' → Sor prog w s'.heap σ → Gd g L own σ → wpAny (model prog w) A (execs rest env) Q E s')
    (hL : env.locals = L := by kernel_rfl) (hk : env.scope.kind = .function := by kernel_rfl) (hl : env.kindOf y = some .local := by kernel_rfl)
    (ht : ∀ it v, letOwnedTupleGo (.Name y tp) it v = pure () := by intro _ _; rfl) (hs : ∀ x, foldedSetIterable iter env x = pure x := by intro _; rfl) :
    wpAny (model prog w) A (execs (.For (.Name y tp) iter body [] pos :: rest) env) Q E s :=
  x_forX Inv H x G h h0 hne (fun i v m own σ g' s₃ E' hi hP hI kg H₃ x₃ G₃ => turn i v m own σ g' s₃ E' (fun f s₄ => match f with
        | .next | .cont => ∃ m' own' σ', St g' L m' own' s₀ s₄ ∧ Sor prog w s₄.heap σ' ∧ Gd g' L own' σ' ∧ Inv (i + 1) m' own' σ'
        | .brk => False
        | .ret v => Q (.ret v) s₄) (fun m' own' σ' _ h1 h2 h3 h4 => ⟨⟨m', own', σ', h1, h2, h3, h4⟩, ⟨m', own', σ', h1, h2, h3, h4⟩⟩) (fun _ _ h => h) hi hP hI kg H₃ x₃ G₃) fin hL hk hl ht hs
end
end Mine
end

-- Q10
section
open PySem PySem.W PyProof.Rows PySem.Calls
set_option Elab.async false
set_option linter.unusedVariables false
set_option linter.unusedSimpArgs false
namespace Mine
noncomputable def NP (σ : Sg) (j : Nat) : Int := if j ∈ σ.ord then σ.np j else 0
noncomputable def SC (σ : Sg) (j : Nat) : List Nat := if j ∈ σ.ord then σ.sc j else []
theorem Ext.mem {σ σ' : Sg} {k : Nat} (e : Ext σ σ' k) (j : Nat) : j ∈ σ'.ord ↔ j ∈ σ.ord ∨ j = k := by
  rw [e.ord]
  split
  · rename_i h; constructor
    · exact .inl
    · rintro (h' | rfl) <;> assumption
  · simp
theorem Ext.NP {σ σ' : Sg} {k : Nat} (e : Ext σ σ' k) (j : Nat) : NP σ' j = NP σ j := by
  unfold Mine.NP
  by_cases h : j ∈ σ.ord
  · rw [if_pos h, if_pos ((e.mem j).mpr (.inl h)), e.np j h]
  · rw [if_neg h]
    by_cases hk : j = k
    · subst hk; rw [if_pos ((e.mem j).mpr (.inr rfl)), e.np0 h]
    · rw [if_neg fun q => ((e.mem j).mp q).elim h hk]
theorem Ext.SC {σ σ' : Sg} {k : Nat} (e : Ext σ σ' k) (j : Nat) : SC σ' j = SC σ j := by
  unfold Mine.SC
  by_cases h : j ∈ σ.ord
  · rw [if_pos h, if_pos ((e.mem j).mpr (.inl h)), e.sc j h]
  · rw [if_neg h]
    by_cases hk : j = k
    · subst hk; rw [if_pos ((e.mem j).mpr (.inr rfl)), e.sc0 h]
    · rw [if_neg fun q => ((e.mem j).mp q).elim h hk]
structure AddR (σ σ' : Sg) (k : Nat) (c : Int) (ps : List Nat) : Prop where
  X : σ'.X = σ.X
  dX : σ'.dX = σ.dX
  N : σ'.N = σ.N
  rd : σ'.rd = σ.rd
  po : σ'.po = σ.po
  fi : σ'.fi = σ.fi
  fz : σ'.fz = σ.fz
  mem : ∀ j, j ∈ σ'.ord ↔ j ∈ σ.ord ∨ j = k ∨ j ∈ ps
  np : ∀ j, NP σ' j = NP σ j + if j = k then c else 0
  sc : ∀ j, SC σ' j = SC σ j ++ (ps.filter (· == j)).map fun _ => k
section
variable {prog : Program} {w : World} {A : Around} {E : Value → Shared → Prop} {env : Env} {s : Shared} {σ σ' : Sg}
theorem St.hid {g : Heap} {L : Addr} {m : List (Str × Value)} {own : List (Addr × (Obj → Prop))} {s₀ : Shared} (H : St g L m own s₀ s) (G : Gd g L own σ) : ∀ b o, g.get? b = some o → (hideAll s.heap σ.vs).get? b = some o :=
  fun b o e => hideAll_get _ (H.keep b o e) fun q => by have := (G b q).1; rw [e] at this; cases this
theorem Gd.aft {g : Heap} {L : Addr} {m : List (Str × Value)} {own : List (Addr × (Obj → Prop))} {s₀ s' : Shared} (G : Gd g L own σ) (H : St g L m own s₀ s) (F : Aft prog w s σ σ' s') : St g L m own s₀ s' ∧ Gd g L own σ' := by
  refine ⟨H.mv F.mv (fun q => (G L q).2.1 rfl) (fun b hb => (G b hb).1) (fun p hp q => (G _ q).2.2 p hp rfl), fun a ha => ?_⟩
  rcases F.nw a ha with q | q
  · exact G a q
  · refine ⟨?_, fun e => ?_, fun p hp e => ?_⟩
    · cases r : g.get? a with
      | none => rfl
      | some o => rw [H.keep _ _ r] at q; cases q
    · obtain ⟨o, _, _, ho, _⟩ := H.ns; rw [← e, q] at ho; cases ho
    · obtain ⟨⟨o, ho, _⟩, _⟩ := H.owns p hp; rw [e, q] at ho; cases ho
theorem len_t {a : Addr} {vs : List Value} {Q : Value → Shared → Prop} (hl : s.heap.get? a = some { cls := .type "tuple", data := .seq vs.toArray }) (hz : vs.length < 2 ^ 62) (h : ∀ t s', Kp s s' → Q (.int vs.length t) s') : wpAny (model prog w) A (call (.builtin "len") [.ref a]) Q E s :=
  P.len_tuple (n := 0) hl (by simp only [List.size_toArray]; omega) (by simpa using h _ _ (Kp.tok _ _))
theorem i_np {k : Nat} {expr : Bool} {Q : Value → Shared → Prop} (B : Bs w s.heap) (x : Sor prog w s.heap σ) (hk : k ∈ σ.ord) (h : ∀ t s', Kp s s' → Q (.int (σ.np k) t) s') : wpAny (model prog w) A (getAttr (.ref (σ.I k)) (Str.ofString "npredecessors") expr) Q E s := by
  have hz : (fun (_ : PySem.W.OpenLaw × (Params → Frag)) => True) (PySem.Challenge.rw_of0070_01, Mine.hd.heap_39) := by (k_fill; trivial)
  obtain ⟨t1, t2, I⟩ := x.i k hk
  have hfo : findObj (Mine.hd.heap_39 w.params) 91 (some emptyDict) (Str.ofString "npredecessors") = some (.bind (.builtin "member_descriptor.__get__") (.ref 93)) := by
    refine findObj_data ?h1 ?h2 ?h3 ?h4
    case h2 => k_is
    case h3 => k_is
    case h4 => k_is
    case h1 => exact (by k_is : isClsIn (Mine.hd.heap_39 w.params) 91 = true)
  exact n_get (p := 93) (i := 1) B I (by k_is) (by k_is) hfo (by k_is) rfl (h t2)
theorem i_sc {k : Nat} {expr : Bool} {Q : Value → Shared → Prop} (B : Bs w s.heap) (x : Sor prog w s.heap σ) (hk : k ∈ σ.ord) (h : ∀ s', Kp s s' → Q (.ref (σ.S k)) s') : wpAny (model prog w) A (getAttr (.ref (σ.I k)) (Str.ofString "successors") expr) Q E s := by
  have hz : (fun (_ : PySem.W.OpenLaw × (Params → Frag)) => True) (PySem.Challenge.rw_of0070_01, Mine.hd.heap_39) := by (k_fill; trivial)
  obtain ⟨t1, t2, I⟩ := x.i k hk
  have hfo : findObj (Mine.hd.heap_39 w.params) 91 (some emptyDict) (Str.ofString "successors") = some (.bind (.builtin "member_descriptor.__get__") (.ref 94)) := by
    refine findObj_data ?h1 ?h2 ?h3 ?h4
    case h2 => k_is
    case h3 => k_is
    case h4 => k_is
    case h1 => exact (by k_is : isClsIn (Mine.hd.heap_39 w.params) 91 = true)
  exact n_get (p := 94) (i := 2) B I (by k_is) (by k_is) hfo (by k_is) rfl h
theorem i_nd {k : Nat} {expr : Bool} {Q : Value → Shared → Prop} (B : Bs w s.heap) (x : Sor prog w s.heap σ) (hk : k ∈ σ.ord) (h : ∀ t s', Kp s s' → Q (.int (k : Int) t) s') : wpAny (model prog w) A (getAttr (.ref (σ.I k)) (Str.ofString "node") expr) Q E s := by
  have hz : (fun (_ : PySem.W.OpenLaw × (Params → Frag)) => True) (PySem.Challenge.rw_of0070_01, Mine.hd.heap_39) := by (k_fill; trivial)
  obtain ⟨t1, t2, I⟩ := x.i k hk
  have hfo : findObj (Mine.hd.heap_39 w.params) 91 (some emptyDict) (Str.ofString "node") = some (.bind (.builtin "member_descriptor.__get__") (.ref 92)) := by
    refine findObj_data ?h1 ?h2 ?h3 ?h4
    case h2 => k_is
    case h3 => k_is
    case h4 => k_is
    case h1 => exact (by k_is : isClsIn (Mine.hd.heap_39 w.params) 91 = true)
  exact n_get (p := 92) (i := 0) B I (by k_is) (by k_is) hfo (by k_is) rfl (h t1)
theorem i_set {k : Nat} {v : Int} {t : Tok} {g : Heap} {L : Addr} {m : List (Str × Value)} {own : List (Addr × (Obj → Prop))} {s₀ : Shared} {Q : Unit → Shared → Prop} (B : Bs w g) (H : St g L m own s₀ s) (G : Gd g L own σ) (x : Sor prog w s.heap σ) (hk : k ∈ σ.ord)
    (h : ∀ s', St g L m own s₀ s' → Sor prog w s'.heap { σ with np := fun j => if j = k then v else σ.np j } → Gd g L own { σ with np := fun j => if j = k then v else σ.np j } → Q () s') :
    wpAny (model prog w) A (setAttr (.ref (σ.I k)) (Str.ofString "npredecessors") (.int v t)) Q E s := by
  have hz : (fun (_ : PySem.W.OpenLaw × (Params → Frag)) => True) (PySem.Challenge.rw_of0070_01, Mine.hd.heap_39) := by (k_fill; trivial)
  obtain ⟨t1, t2, I⟩ := x.i k hk
  refine n_set (p := 93) (i := 1) (H.bs B) I (by k_is) (by k_is) (by k_is) (by k_is) (by k_is) (by decide) (sl_n _ _ _ _) ?_
  intro h' tk I' sb _
  have ha := G (σ.I k) (mem_vs.mpr (.inr (.inr (.inl ⟨k, hk, rfl⟩))))
  exact h _ (H.upd sb ha.2.1 ha.1 ha.2.2) (x.set_np hk I' sb) G
theorem sc_app {k j : Nat} {t : Tok} {g : Heap} {L : Addr} {m : List (Str × Value)} {own : List (Addr × (Obj → Prop))} {s₀ : Shared} {Q : Value → Shared → Prop} (H : St g L m own s₀ s) (G : Gd g L own σ) (x : Sor prog w s.heap σ) (hk : k ∈ σ.ord) (hf : σ.fz = false) (hz : (σ.sc k).length ≤ 1000)
    (h : ∀ s', St g L m own s₀ s' → Sor prog w s'.heap { σ with sc := fun i => if i = k then σ.sc k ++ [j] else σ.sc i } → Gd g L own { σ with sc := fun i => if i = k then σ.sc k ++ [j] else σ.sc i } → Q .none s') :
    wpAny (model prog w) A (call (.builtin "list.append") [.ref (σ.S k), .int (j : Int) t]) Q E s := by
  obtain ⟨vs, hl, hi⟩ := x.s k hk
  have hvl : vs.length = (σ.sc k).length := by rw [hi.length]; simp [nums]
  have hzz : vs.toArray.size ≤ sizeLine := by
    have : 1000 ≤ sizeLine := by decide
    simp only [List.size_toArray]; omega
  refine wpAny_list_append_plain (hsz := hzz) hl fun h' hl' hs' => ?_
  have ha := G (σ.S k) (mem_vs.mpr (.inr (.inr (.inr (.inl ⟨k, hk, hf, rfl⟩)))))
  have : ({ s with heap := h' } : Shared) = { s with heap := h', toks := s.toks } := rfl
  rw [this]
  refine h _ (H.upd hs' ha.2.1 ha.1 ha.2.2) (x.set_sc hk (l := σ.sc k ++ [j]) ⟨vs ++ [.int (j : Int) t], ?_, ?_⟩ hs') G
  · simpa using hl'
  · unfold nums
    rw [List.map_append]
    exact ints_snoc hi
theorem add_code {k : Nat} {t : Tok} {vs : List Value} {ps : List Nat} (Rm : Room A 8 80) (B : Bs w (hideAll s.heap σ.vs)) (x : Sor prog w s.heap σ) (hk : k < 5) (hp : ∀ p ∈ ps, p < 5) (hi : IntsAre vs (nums ps)) (h3 : ps.length ≤ 3) (hr : σ.rd = none) (hfz : σ.fz = false) (hsc : ∀ j, (SC σ j).length ≤ 100) :
    codeAny (model prog w) A (.call (.ref 138) ⟨.ref σ.X :: .int (k : Int) t :: vs, []⟩) (fun r s' => match r with | .ok (.ret v) => v = .none ∧ ∃ σ', AddR σ σ' k ps.length ps ∧ Aft prog w s σ σ' s' | .ok _ => False | .error e => E e s') s := by
  have hz : (fun (_ : PySem.W.OpenLaw × (Params → Frag)) => True) (PySem.Challenge.rw_of0070_01, Mine.hd.heap_39) := by (k_fill; trivial)
  have hvl : vs.length = ps.length := by rw [hi.length]; simp [nums]
  refine opqR fun R hR => ?_
  refine enterV (vs := vs) (front := [(Str.ofString "self", .ref σ.X), (Str.ofString "node", .int (k : Int) t)]) (nm := Str.ofString "predecessors") (B.keeps fun b o e => of_hideAll _ e) Rm.low (by k_is) (by k_is) ?_ ?_ ?_ ?_
  · rcases vs with _ | ⟨a, _ | ⟨b, _ | ⟨c, _ | ⟨d, r⟩⟩⟩⟩
    · rfl
    · rfl
    · rfl
    · rfl
    · simp at hvl; omega
  · have : 3 ≤ sizeLine := by decide
    omega
  · intro u y hy
    rcases List.mem_cons.mp hy with rfl | hy
    · rfl
    rcases List.mem_cons.mp hy with rfl | hy
    · rfl
    rw [List.mem_singleton.mp hy]; rfl
  intro D L s' A1 DA hD hL hDL hg
  obtain ⟨g0, kg0, gD, H⟩ := hg
  replace Rm := Rm.deep DA (d' := 7) (u' := 77) (by decide) (by decide)
  replace H : St g0 L [(Str.ofString "predecessors", .ref D), (Str.ofString "node", .int (k : Int) t), (Str.ofString "self", .ref σ.X)] [] s s' := H
  have x1 := x.keeps fun b o e => H.keep b o (kg0 b o e)
  have hLV : ∀ a ∈ σ.vs, a ≠ L := fun a ha e => by obtain ⟨o, q⟩ := x.vs_in ha; rw [e, hL] at q; cases q
  have hDV : D ∉ σ.vs := fun ha => by obtain ⟨o, q⟩ := x.vs_in ha; rw [hD] at q; cases q
  have G : Gd (hideAll g0 σ.vs) L [] σ := fun a ha => ⟨hideAll_none _ ha, hLV a ha, by simp⟩
  replace H := H.base (g := hideAll g0 σ.vs) (fun b o e => of_hideAll _ e)
  have kgs : ∀ b o, b ∉ σ.vs → s.heap.get? b = some o → (hideAll g0 σ.vs).get? b = some o := fun b o hb e => hideAll_get _ (kg0 b o e) hb
  replace gD : (hideAll g0 σ.vs).get? D = some { cls := .type "tuple", data := .seq vs.toArray } := hideAll_get _ gD hDV
  replace B : Bs w (hideAll g0 σ.vs) := B.keeps fun b o e => by
    by_cases hb : b ∈ σ.vs
    · rw [hideAll_none _ hb] at e; cases e
    · exact kgs b o hb (of_hideAll _ e)
  generalize hideAll g0 σ.vs = g at H G kgs gD B
  -- if self._ready_nodes is not None
  with_reducible refine x_if ?_
  refine t_cmp ?_
  with_reducible refine e_attr ?_
  refine n_loc H.ns rfl ?_
  refine at_rd (H.bs B) x1 ?_
  intro s2 k2
  replace H := H.keeps k2
  replace x1 := x1.keeps k2.get
  refine wpAny_Constant_none ?_
  rw [hr]
  refine wpAny_isNot_self rfl (tru_b ?_)
  refine ite_f rfl ?_
  refine x_nil ?_
  -- nodeinfo = self._get_nodeinfo(node)
  with_reducible refine x_assign ?_ (by kernel_rfl)
  with_reducible refine m_call ?_
  refine n_loc H.ns rfl ?_
  refine gm_X (f := 131) (H.bs B) x1 (by k_is) (by k_is) ?_
  with_reducible refine cf1 (H.bs B) (by k_is) ?_
  with_reducible refine i_cons ?_
  refine n_loc H.ns rfl ?_
  with_reducible refine i_nil ?_
  refine ⟨H.bs B, ?_⟩
  refine wpAny_mono (getn_spec (Rm.le (by decide) (by decide)) (B.keeps (H.hid G)) x1 hk) (fun v s3 h3 => ?_) fun _ _ y => y
  obtain ⟨σ1, rfl, EX, AF⟩ := h3
  obtain ⟨H1, G1⟩ := G.aft H AF
  have x2 := AF.x
  have d1 : σ1.dX ≠ L := (G1 _ (mem_vs.mpr (.inl rfl))).2.1
  have n1 : σ1.N ≠ L := (G1 _ (mem_vs.mpr (.inr (.inl rfl)))).2.1
  have hk1 : k ∈ σ1.ord := (EX.mem k).mpr (.inr rfl)
  refine s_locX H1 x2 d1 n1 ?_ ⟨Str.ofString "self", _, rfl⟩
  intro s4 H x2
  -- nodeinfo.npredecessors += len(predecessors)
  refine wpAny_execs_cons (wpAny_AugAssign_AttributeAny ?_)
  refine n_loc H.ns rfl ?_
  refine i_np (H.bs B) x2 hk1 ?_
  intro t5 s5 k5
  replace H := H.keeps k5
  replace x2 := x2.keeps k5.get
  with_reducible refine c_bi (H.bs B) (by k_is) boot_len ?_
  with_reducible refine i_cons ?_
  refine n_loc H.ns rfl ?_
  with_reducible refine i_nil ?_
  refine len_t (vs := vs) (H.keep _ _ gD) (by omega) ?_
  intro t6 s6 k6
  replace H := H.keeps k6
  replace x2 := x2.keeps k6.get
  refine iadd_i ?_
  intro t7 s7 k7
  replace H := H.keeps k7
  replace x2 := x2.keeps k7.get
  refine i_set B H G1 x2 hk1 ?_
  intro s8 H x2 G1
  have A1R : AddR σ { σ1 with np := fun j => if j = k then σ1.np k + (vs.length : Int) else σ1.np j } k ps.length [] := by
    refine ⟨EX.X, EX.dX, EX.N, EX.rd, EX.po, EX.fi, EX.fz, fun j => ?_, fun j => ?_, fun j => ?_⟩
    · simpa using EX.mem j
    · have e := EX.NP j
      unfold NP at e ⊢
      dsimp only
      by_cases hjk : j = k
      · subst hjk
        rw [if_pos hk1] at e ⊢
        simp only [if_true]
        rw [e, hvl]
      · simp only [hjk, if_false]
        rw [e]; simp
    · have e := EX.SC j
      unfold SC at e ⊢
      dsimp only
      rw [e]; simp
  generalize { σ1 with np := fun j => if j = k then σ1.np k + (vs.length : Int) else σ1.np j } = σ2 at x2 G1 A1R
  -- for pred in predecessors
  refine x_forXK (n := vs.length) (P := fun i v => vs[i]? = some v) (fun i m own σ' => own = [] ∧ AddR σ σ' k ps.length (ps.take i) ∧ m.lookup (Str.ofString "self") = some (.ref σ.X) ∧ m.lookup (Str.ofString "node") = some (.int (k : Int) t)) H x2 G1 ?_ ?_ ?_ ?_ ?_
  · refine n_loc H.ns rfl ?_
    refine ⟨Kp.same _, srcY_tuple Rm.hh ⟨_, H.keep _ _ gD, rfl, 0, rfl⟩ ?_⟩
    intro it s9 h9
    refine ⟨_, h9, ?_⟩
    intro a ha
    rw [List.mem_singleton.mp ha]
    refine ⟨hDL, by simp, fun q => ?_⟩
    have := (G1 D q).1
    rw [gD] at this; cases this
  · exact ⟨rfl, by simpa using A1R, rfl, rfl⟩
  · rintro i m own σ' ⟨_, _, h, _⟩
    exact ⟨_, _, h⟩
  · rintro i v m own σ3 g3 s9 E3 K1 kn1 kr1 hin hv ⟨rfl, AR, hself, hnode⟩ kg3 H x3 G3
    have B3 : Bs w g3 := B.keeps kg3
    obtain ⟨n, tn, hn, rfl⟩ := ints_get hi hv
    unfold nums at hn
    rw [List.getElem?_map] at hn
    obtain ⟨p, hp1, rfl⟩ := Option.map_eq_some_iff.mp hn
    have hp5 := hp p (List.mem_of_getElem? hp1)
    have hXX : Value.ref σ.X = .ref σ3.X := by rw [AR.X]
    rw [hXX] at hself
    -- pred_info = self._get_nodeinfo(pred)
    with_reducible refine x_assign ?_ (by kernel_rfl)
    with_reducible refine m_call ?_
    refine n_loc H.ns hself ?_
    refine gm_X (f := 131) (H.bs B3) x3 (by k_is) (by k_is) ?_
    with_reducible refine cf1 (H.bs B3) (by k_is) ?_
    with_reducible refine i_cons ?_
    refine n_loc H.ns rfl ?_
    with_reducible refine i_nil ?_
    refine ⟨H.bs B3, ?_⟩
    refine wpAny_mono (getn_spec (Rm.le (by decide) (by decide)) (B3.keeps (H.hid G3)) x3 hp5) (fun v s10 h10 => ?_) fun _ _ y => y
    obtain ⟨σ4, rfl, EX4, AF4⟩ := h10
    obtain ⟨H4, G4⟩ := G3.aft H AF4
    have x4 := AF4.x
    have hp4 : p ∈ σ4.ord := (EX4.mem p).mpr (.inr rfl)
    refine s_locX H4 x4 (G4 _ (mem_vs.mpr (.inl rfl))).2.1 (G4 _ (mem_vs.mpr (.inr (.inl rfl)))).2.1 ?_ ⟨Str.ofString "self", _, hself⟩
    intro s11 H x4
    -- pred_info.successors.append(node)
    with_reducible refine x_expr ?_ (by kernel_rfl) (by kernel_rfl)
    with_reducible refine m_call ?_
    with_reducible refine e_attr ?_
    refine n_loc H.ns rfl ?_
    refine i_sc (H.bs B3) x4 hp4 ?_
    intro s12 k12
    replace H := H.keeps k12
    replace x4 := x4.keeps k12.get
    obtain ⟨ws, hwl, _⟩ := x4.s p hp4
    refine gm_list F.slot_list_append F.type_list_append hwl ?_
    with_reducible refine cw1 ?_
    with_reducible refine i_cons ?_
    refine n_loc H.ns hnode ?_
    with_reducible refine i_nil ?_
    have hsc4 : (σ4.sc p).length ≤ 1000 := by
      have e1 := EX4.SC p
      have e2 := AR.sc p
      rw [e2] at e1
      have e3 := hsc p
      have e4 : SC σ4 p = σ4.sc p := by unfold SC; rw [if_pos hp4]
      rw [e4] at e1
      rw [e1, List.length_append, List.length_map]
      have := List.length_filter_le (· == p) (ps.take i)
      have := List.length_take_le i ps
      omega
    refine sc_app (j := k) H G4 x4 hp4 ((EX4.fz.trans AR.fz).trans hfz) hsc4 ?_
    intro s13 H x5 G5
    refine ⟨rfl, x_nil (kn1 _ _ _ _ H x5 G5 ⟨rfl, ?_, ?_, hnode⟩).1⟩
    · have et : ps.take (i + 1) = ps.take i ++ [p] := by rw [List.take_add_one, hp1]; rfl
      rw [et]
      refine ⟨EX4.X.trans AR.X, EX4.dX.trans AR.dX, EX4.N.trans AR.N, EX4.rd.trans AR.rd, EX4.po.trans AR.po, EX4.fi.trans AR.fi, EX4.fz.trans AR.fz, fun j => ?_, fun j => ?_, fun j => ?_⟩
      · rw [EX4.mem j, AR.mem j]; simp only [List.mem_append, List.mem_singleton, or_assoc]
      · have := (EX4.NP j).trans (AR.np j)
        unfold NP at this ⊢
        exact this
      · have e1 := (EX4.SC j).trans (AR.sc j)
        unfold SC at e1 ⊢
        dsimp only
        by_cases hj : j = p
        · subst hj
          rw [if_pos hp4] at e1 ⊢
          simp only [if_true]
          rw [e1]; simp
        · have hb : (p == j) = false := by simp; exact fun q => hj q.symm
          simp only [hj, if_false]
          rw [e1, List.filter_append, List.filter_cons, hb]; simp
    · show List.lookup (Str.ofString "self") m = _
      rw [hself, hXX]
  · rintro m own σ' s9 ⟨rfl, AR, _⟩ H x3 G3
    refine x_nil (hR _ _ ⟨rfl, σ', ?_, x3, ⟨H.near, fun b o hb e => H.keep b o (kgs b o hb e)⟩, fun a ha => ?_⟩)
    · rw [hvl] at AR; simpa using AR
    · by_cases hav : a ∈ σ.vs
      · exact .inl hav
      · refine .inr ?_
        cases q : s.heap.get? a with
        | none => rfl
        | some o => have := (G3 a ha).1; rw [kgs a o hav q] at this; cases this
end
end Mine
end

-- Q11
section
open PySem PySem.W PyProof.Rows PySem.Calls
set_option Elab.async false
set_option linter.unusedVariables false
set_option linter.unusedSimpArgs false
namespace Mine
section
variable {prog : Program} {w : World} {A : Around} {E : Value → Shared → Prop} {env : Env} {s : Shared}
theorem e_dict {pos : Pos} {Q : Value → Shared → Prop} (h : ∀ N s', s.heap.get? N = none → s.heap.objs.size ≤ N → Kp s s' → s'.heap.DictOf (intKind prog w) N [] → Q (.ref N) s') : wpAny (model prog w) A (eval (.Dict [] [] pos) env) Q E s :=
  wpAny_Dict_empty (h _ _ (fresh_size _ (Nat.le_refl _)) (Nat.le_refl _) (Kp.push s _ s.toks) (Heap.DictOf.new _))
theorem make_sorter {Q : Value → Shared → Prop} (Rm : Room A 3 30) (B : Bs w s.heap)
    (h : ∀ σ s', Kp s s' → Sor prog w s'.heap σ → σ.ord = [] → σ.rd = none → σ.po = 0 → σ.fi = 0 → σ.fz = false → (∀ a ∈ σ.vs, s.heap.get? a = none) → Q (.ref σ.X) s') :
    wpAny (model prog w) A (call (.ref 188) []) Q E s := by
  have hz : (fun (_ : PySem.W.OpenLaw × (Params → Frag)) => True) (PySem.Challenge.rw_of0070_01, Mine.hd.heap_39) := by (k_fill; trivial)
  refine wpAny_call ?_
  obtain ⟨hh, g, d, t, os⟩ := s
  refine make_core (init := .ref 124) (makes_of B.X (by k_is)) (looks_findIn B.X (by k_is)) (fun self => bind_fn B.X self (by k_is)) (.inl rfl) ?_
  have k1 : ∀ b o, hh.get? b = some o → ((hh.push emptyDict).push (instObj 188 hh.objs.size)).get? b = some o := fun b o e => Heap.get?_push_of_some _ (Heap.get?_push_of_some _ e)
  have hx : ((hh.push emptyDict).push (instObj 188 hh.objs.size)).get? (hh.objs.size + 1) = some (instObj 188 hh.objs.size) := by heap_get
  have hdx : ((hh.push emptyDict).push (instObj 188 hh.objs.size)).get? hh.objs.size = some emptyDict := by heap_get
  have hn : hh.get? (hh.objs.size + 1) = none := fresh_size _ (by omega)
  have hnd : hh.get? hh.objs.size = none := fresh_size _ (by omega)
  have hne : hh.objs.size ≠ hh.objs.size + 1 := by omega
  have B1 : Bs w ((hh.push emptyDict).push (instObj 188 hh.objs.size)) := B.keeps k1
  have hx188 : hh.objs.size + 1 ≠ 188 := by
    have h0 := B.X 188 _ (by k_is)
    have h2 : 188 < hh.objs.size := Heap.lt_size h0
    exact Nat.ne_of_gt (Nat.lt_succ_of_lt h2)
  generalize hxe : hh.objs.size + 1 = x at hx hn hne hx188 ⊢
  generalize hhe : (hh.push emptyDict).push (instObj 188 hh.objs.size) = h1 at k1 hx hdx B1 ⊢
  generalize hde : hh.objs.size = dx at hx hdx hne hnd
  have hlow : sysModules < dx := hde ▸ modules_low B.lim
  refine enterR (s := ⟨h1, g, d, t, os⟩) B1 (by have := Rm.hd; show A.depth + 1 < _; omega) (by k_is) (by k_is) (binds_K B1.X rfl (by k_is) rfl rfl rfl) (locs rfl) ?_
  intro s' A1 DA H
  replace Rm := (Rm.under (C := 188) (vs := []) (d' := 2) (u' := 20) (by omega) (by omega)).deep DA (d' := 1) (u' := 17) (by omega) (by omega)
  have hLx : dx ≠ h1.objs.size := Nat.ne_of_lt (Heap.lt_size hdx)
  have hLX : x ≠ h1.objs.size := Nat.ne_of_lt (Heap.lt_size hx)
  replace H : St h1 h1.objs.size [(Str.ofString "graph", .none), (Str.ofString "self", .ref x)] [] ⟨h1, g, d, t, os⟩ s' := H
  show wpAny (model prog w) A1 (execs _ (envOf _ _ h1.objs.size _ _)) _ _ _
  generalize h1.objs.size = L at H hLx hLX ⊢
  have N1 : s'.heap.Ns1 dx (fun _ => none) := Heap.Ns1.of_empty ⟨_, #[], 0, H.keep _ _ hdx, rfl, fun e he => absurd he (by simp), fun _ => rfl⟩
  have X1 : s'.heap.get? x = some (instObj 188 dx) := H.keep _ _ hx
  replace H := H.base (g := hideAll h1 [dx]) (fun b o e => of_hideAll _ e)
  have gx : (hideAll h1 [dx]).get? dx = none := hideAll_none _ (by simp)
  have old : ∀ b o, hh.get? b = some o → (hideAll h1 [dx]).get? b = some o := fun b o e => hideAll_get _ (k1 b o e) (fun q => by rw [List.mem_singleton.mp q, hnd] at e; cases e)
  have Bg : Bs w (hideAll h1 [dx]) := B.keeps old
  have gX : (hideAll h1 [dx]).get? x = some (instObj 188 dx) := hideAll_get _ hx (by simpa using Ne.symm hne)
  -- self._node2info = {}
  with_reducible refine x_seta ?_ (by kernel_rfl)
  have olds : ∀ b o, hh.get? b = some o → s'.heap.get? b = some o := fun b o e => H.keep b o (old b o e)
  have lows : sysModules < s'.heap.objs.size := modules_low (H.bs Bg).lim
  refine e_dict ?_
  intro N s2 hN hNs k2 DN
  replace H := H.keeps k2
  replace X1 := k2.get _ _ X1
  have hNdx : N ≠ dx := fun e => by
    obtain ⟨o, _, _, ho, _⟩ := N1
    rw [← e, hN] at ho; cases ho
  replace N1 := N1.keeps k2.get
  refine n_loc H.ns rfl ?_
  refine x_set (dx := dx) (H.bs Bg) X1 hne N1 (by k_is) (by k_is) hx188 ?_ PySem.Within.nil (by decide)
  intro h3 tk3 N3 kp3
  have st : ∀ {s3 : Shared} {h4 : Heap} {tk : Nat}, St (hideAll h1 [dx]) L [(Str.ofString "graph", .none), (Str.ofString "self", .ref x)] [] ⟨h1, g, d, t, os⟩ s3 → (∀ b o, b ≠ dx → s3.heap.get? b = some o → h4.get? b = some o) → St (hideAll h1 [dx]) L [(Str.ofString "graph", .none), (Str.ofString "self", .ref x)] [] ⟨h1, g, d, t, os⟩ { s3 with heap := h4, toks := tk } :=
    fun H kp => H.but (wr := [dx]) (fun b o hb e => kp b o (by simpa using hb) e) (by simpa using Ne.symm hLx) (by simpa using gx) (by simp)
  replace H := st (tk := tk3) H kp3
  replace DN := DN.at fun o e => kp3 _ o hNdx e
  replace X1 := kp3 _ _ (Ne.symm hne) X1
  -- self._ready_nodes = None
  with_reducible refine x_seta ?_ (by kernel_rfl)
  refine wpAny_Constant_none ?_
  refine n_loc H.ns rfl ?_
  refine x_set (dx := dx) (H.bs Bg) X1 hne N3 (by k_is) (by k_is) hx188 ?_ (PySem.Within.cons _ _ PySem.Within.nil) (by decide)
  intro h4 tk4 N4 kp4
  replace H := st (tk := tk4) H kp4
  replace DN := DN.at fun o e => kp4 _ o hNdx e
  replace X1 := kp4 _ _ (Ne.symm hne) X1
  -- self._npassedout = 0
  with_reducible refine x_seta ?_ (by kernel_rfl)
  with_reducible refine k_int ?_
  intro t5 s5 k5
  replace H := H.keeps k5
  replace DN := DN.keep k5.get
  replace X1 := k5.get _ _ X1
  replace N4 := N4.keeps k5.get
  refine n_loc H.ns rfl ?_
  refine x_set (dx := dx) (H.bs Bg) X1 hne N4 (by k_is) (by k_is) hx188 ?_ (PySem.Within.cons _ _ (PySem.Within.cons _ _ PySem.Within.nil)) (by decide)
  intro h6 tk6 N6 kp6
  replace H := st (tk := tk6) H kp6
  replace DN := DN.at fun o e => kp6 _ o hNdx e
  replace X1 := kp6 _ _ (Ne.symm hne) X1
  -- self._nfinished = 0
  with_reducible refine x_seta ?_ (by kernel_rfl)
  with_reducible refine k_int ?_
  intro t7 s7 k7
  replace H := H.keeps k7
  replace DN := DN.keep k7.get
  replace X1 := k7.get _ _ X1
  replace N6 := N6.keeps k7.get
  refine n_loc H.ns rfl ?_
  refine x_set (dx := dx) (H.bs Bg) X1 hne N6 (by k_is) (by k_is) hx188 ?_ (PySem.Within.cons _ _ (PySem.Within.cons _ _ (PySem.Within.cons _ _ PySem.Within.nil))) (by decide)
  intro h8 tk8 N8 kp8
  replace H := st (tk := tk8) H kp8
  replace DN := DN.at fun o e => kp8 _ o hNdx e
  replace X1 := kp8 _ _ (Ne.symm hne) X1
  -- if graph is not None
  with_reducible refine x_if ?_
  refine t_cmp ?_
  refine n_loc H.ns rfl ?_
  refine wpAny_Constant_none ?_
  refine wpAny_isNot_self rfl (tru_b ?_)
  refine ite_f rfl ?_
  refine x_nil ?_
  refine x_nil ?_
  have hNold : hh.get? N = none := by
    cases q : hh.get? N with
    | none => rfl
    | some o => have := olds _ _ q; rw [hN] at this; cases this
  have fin : Q (.ref x) { s7 with heap := h8, toks := tk8 } := by
    refine h ⟨x, dx, N, [], fun _ => 0, fun _ => 0, fun _ => 0, fun _ => [], none, 0, 0, false⟩ _ ⟨?_, fun b o e => H.keep b o (old b o e)⟩ ⟨X1, ?_, DN, by simp, by simp, by simp, Ne.symm hNdx, by simp, by simp, by simp, by simp, ?_, hx188⟩ rfl rfl rfl rfl rfl ?_
    · obtain ⟨h7, t7, e7⟩ := H.near
      exact ⟨h7, t7, e7⟩
    · refine ⟨_, N8, ?_, ?_, ?_, ⟨t5, ?_⟩, ⟨t7, ?_⟩⟩
      · intro y hy
        have := PySem.Within.cons (Str.ofString "_nfinished") (.int 0 t7) (PySem.Within.cons (Str.ofString "_npassedout") (.int 0 t5) (PySem.Within.cons (Str.ofString "_ready_nodes") .none (PySem.Within.cons (Str.ofString "_node2info") (.ref N) PySem.Within.nil))) y hy
        unfold names4
        simp only [List.mem_cons, List.not_mem_nil, or_false] at this ⊢
        rcases this with r | r | r | r <;> simp [r]
      · rfl
      · rfl
      · rfl
      · rfl
    · have : N ≠ sysModules := by
        exact Nat.ne_of_gt (Nat.lt_of_lt_of_le lows hNs)
      simpa using this
    · intro a ha
      rcases mem_vs.mp ha with rfl | rfl | ⟨k, hk, _⟩ | ⟨k, hk, _⟩ | ⟨p, hp, _⟩
      · exact hnd
      · exact hNold
      · cases hk
      · cases hk
      · cases hp
  exact ⟨rfl, fin⟩
end
end Mine
end

-- Q12
section
open PySem PySem.W PyProof.Rows PySem.Calls
set_option Elab.async false
set_option linter.unusedVariables false
set_option linter.unusedSimpArgs false
namespace Mine
theorem meets_bool_list (l : Addr) (vs : List Value) (hz : vs.length < 2 ^ 62) : Meets (Builtin.«bool.__new__» ⟨[.type "bool", .ref l], []⟩) (fun _ R s => s.heap.IsList l vs.toArray ∧ ∀ tk, R (.ok (.ret (.bool (!vs.isEmpty)))) { s with toks := tk }) :=
  Meets.of_wp fun prog w A R s hs => by
    obtain ⟨hp, g, d, tk, os⟩ := s
    obtain ⟨hl, hq⟩ := hs
    have f1 := F.conv_sub_bool
    have e : (vs.toArray.isEmpty) = vs.isEmpty := by cases vs <;> rfl
    repeat (any_goals (first | assumption | (with_reducible refine wpAny_truthy_list hl (by simp only [List.size_toArray]; omega) ?_; rw [e]) | wp_step))
    all_goals first | exact ⟨_, rfl, hq _⟩ | trace_state
section
variable {prog : Program} {w : World} {A : Around} {E : Value → Shared → Prop} {env : Env} {s : Shared} {σ : Sg}
theorem bool_l {l : Addr} {vs : List Value} {Q : Value → Shared → Prop} (hl : s.heap.IsList l vs.toArray) (hz : vs.length < 2 ^ 62) (h : ∀ s', Kp s s' → Q (.bool (!vs.isEmpty)) s') : wpAny (model prog w) A (call (.type "bool") [.ref l]) Q E s :=
  call_bool_1 (meets_bool_list l vs hz) ⟨hl, fun tk => ⟨rfl, h _ (Kp.tok _ _)⟩⟩
theorem boot_bool : bootBuiltins (Str.ofString "bool") = some (.type "bool") := by kernel_rfl
theorem active_spec {a : Addr} {l : List Nat} (Rm : Room A 3 30) (B : Bs w s.heap) (x : Sor prog w s.heap σ) (hr : σ.rd = some (a, l)) (hz : l.length ≤ 1000) :
    wpAny (model prog w) A (call (.ref 157) [.ref σ.X]) (fun v s' => v = .bool (decide (σ.fi < σ.po) || !l.isEmpty) ∧ Kp s s') E s := by
  have hz : (fun (_ : PySem.W.OpenLaw × (Params → Frag)) => True) (PySem.Challenge.rw_of0070_01, Mine.hd.heap_39) := by (k_fill; trivial)
  refine wpAny_call (enterR B Rm.low (by k_is) (by k_is) (BindsTo.of_eq rfl) (locs rfl) ?_)
  intro s' A1 DA H
  replace Rm := Rm.deep DA (d' := 2) (u' := 27) (by decide) (by decide)
  generalize s.heap.objs.size = L at H ⊢
  replace H : St s.heap L [(Str.ofString "self", .ref σ.X)] [] s s' := H
  have x1 := x.keeps H.keep
  with_reducible refine x_if ?_
  refine t_cmp ?_
  with_reducible refine e_attr ?_
  refine n_loc H.ns rfl ?_
  refine at_rd (H.bs B) x1 ?_
  intro s2 k2
  replace H := H.keeps k2
  replace x1 := x1.keeps k2.get
  refine wpAny_Constant_none ?_
  rw [hr]
  refine is_none (tru_b ?_)
  have e0 : (rdv (some (a, l)) == Value.none) = false := rfl
  rw [e0, if_neg Bool.false_ne_true]
  refine x_nil ?_
  with_reducible refine x_ret ?_
  with_reducible refine wpAny_Or2 ?_
  refine e_cmp ?_
  with_reducible refine e_attr ?_
  refine n_loc H.ns rfl ?_
  refine at_fi (H.bs B) x1 ?_
  intro t3 s3 k3
  replace H := H.keeps k3
  replace x1 := x1.keeps k3.get
  with_reducible refine e_attr ?_
  refine n_loc H.ns rfl ?_
  refine at_po (H.bs B) x1 ?_
  intro t4 s4 k4
  replace H := H.keeps k4
  replace x1 := x1.keeps k4.get
  refine lt_int (tru_b ?_)
  by_cases hlt : σ.fi < σ.po
  · have e1 : decide (σ.fi < σ.po) = true := by simpa using hlt
    rw [e1, if_pos rfl]
    exact ⟨rfl, H.done⟩
  · have e1 : decide (σ.fi < σ.po) = false := by simpa using hlt
    rw [e1, if_neg Bool.false_ne_true]
    with_reducible refine c_ty (H.bs B) (by k_is) boot_bool ?_
    with_reducible refine i_cons ?_
    with_reducible refine e_attr ?_
    refine n_loc H.ns rfl ?_
    refine at_rd (H.bs B) x1 ?_
    intro s5 k5
    replace H := H.keeps k5
    replace x1 := x1.keeps k5.get
    rw [hr]
    with_reducible refine i_nil ?_
    obtain ⟨vs, hvs, hi⟩ := x1.r _ hr
    have hvl : vs.length = l.length := by rw [hi.length]; simp [nums]
    refine bool_l (plain_list hvs) (by omega) ?_
    intro s6 k6
    have e2 : vs.isEmpty = l.isEmpty := by
      cases vs <;> cases l <;> simp_all
    rw [e2, Bool.false_or]
    exact ⟨rfl, (H.keeps k6).done⟩
end
end Mine
end

-- Q13
section
open PySem PySem.W PyProof.Rows PySem.Calls
set_option Elab.async false
set_option linter.unusedVariables false
set_option linter.unusedSimpArgs false
namespace Mine
section
variable {prog : Program} {w : World} {A : Around} {E : Value → Shared → Prop} {env : Env} {s : Shared} {σ : Sg}
theorem e_ditem {value slice : Expr} {pos : Pos} {Q : Value → Shared → Prop}
    (h : wpAny (model prog w) A (eval value env) (fun o s₁ => wpAny (model prog w) A (eval slice env) (fun i s₂ => ∃ σ k t, o = .ref σ.N ∧ i = .int ((k : Nat) : Int) t ∧ Sor prog w s₂.heap σ ∧ k ∈ σ.ord ∧ ∀ s', Kp s₂ s' → Q (.ref (σ.I k)) s') E s₁) E s)
    (hs : ∀ a k t, subscripted slice false (.ref a) (.int k t) = operate [.ref a, .int k t] (getItem (.ref a) (.int k t)) := by intro _ _ _; with_unfolding_all rfl) :
    wpAny (model prog w) A (eval (.Subscript value slice pos) env) Q E s := by
  refine Subscript_ (wpAny_mono h (fun o s₁ h₁ => wpAny_mono h₁ (fun i s₂ h₂ => ?_) fun _ _ y => y) fun _ _ y => y)
  obtain ⟨σ, k, t, rfl, rfl, x, hk, hq⟩ := h₂
  refine tail_any x.n.typeIs F.slot_dict_getitem.lookup (wpAny_getItem_of (is_k k t) x.n.mapOf ?_ (hq _ (Kp.tok _ _))) (hs _ _ _)
  rw [valueAt_kvs, if_pos hk]
theorem set_X {name : Str} {v : Value} {σ' : Sg} {g : Heap} {L : Addr} {m : List (Str × Value)} {own : List (Addr × (Obj → Prop))} {s₀ : Shared} {Q : Unit → Shared → Prop} (B : Bs w g) (H : St g L m own s₀ s) (G : Gd g L own σ) (x : Sor prog w s.heap σ)
    (hn : nsIn (Mine.hd.heap_39 w.params) 187 name = some none) (hg : nsIn (Mine.hd.heap_39 w.params) 187 (Str.ofString "__setattr__") = some none) (hin : name ∈ names4)
    (hX : σ' = { σ with rd := σ'.rd, po := σ'.po, fi := σ'.fi })
    (hA : ∀ mA : Str → Option Value, mA (Str.ofString "_node2info") = some (.ref σ.N) → mA (Str.ofString "_ready_nodes") = some (rdv σ.rd) → (∃ t, mA (Str.ofString "_npassedout") = some (.int σ.po t)) → (∃ t, mA (Str.ofString "_nfinished") = some (.int σ.fi t)) →
      (fun y => if y = name then some v else mA y) (Str.ofString "_node2info") = some (.ref σ.N) ∧ (fun y => if y = name then some v else mA y) (Str.ofString "_ready_nodes") = some (rdv σ'.rd) ∧ (∃ t, (fun y => if y = name then some v else mA y) (Str.ofString "_npassedout") = some (.int σ'.po t)) ∧ ∃ t, (fun y => if y = name then some v else mA y) (Str.ofString "_nfinished") = some (.int σ'.fi t))
    (hr : ∀ p, σ'.rd = some p → ListK s.heap p.1 p.2 ∧ ∀ k ∈ σ.ord, p.1 ≠ σ.S k)
    (h : ∀ s', St g L m own s₀ s' → Sor prog w s'.heap σ' → (∀ b o, b ≠ σ.dX → s.heap.get? b = some o → s'.heap.get? b = some o) → Q () s')
    (hB : typeLookup (.type "object") name = pure none := by rw [typeLookup_type, builtinLookup_eq_fast]; kernel_rfl) :
    wpAny (model prog w) A (setAttr (.ref σ.X) name v) Q E s := by
  obtain ⟨mA, N1, hw, a1, a2, a3, a4⟩ := x.d
  have hne : σ.dX ≠ σ.X := fun e => by
    obtain ⟨o, es, n, e1, e2, _⟩ := x.dX_ob
    have := x.x; rw [← e, e1] at this; cases this; cases e2
  refine x_set (dx := σ.dX) (ns := names4) (H.bs B) x.x hne N1 hn hg x.xc ?_ hw (by decide) hB
  intro h' tk N2 kp
  have ha := G σ.dX (mem_vs.mpr (.inl rfl))
  refine h _ (H.but (wr := [σ.dX]) (fun b o hb e => kp b o (by simpa using hb) e) (by simpa using Ne.symm ha.2.1) (by simpa using ha.1) (fun p hp => by simpa using ha.2.2 p hp)) (x.set_at hX ?_ kp hr) kp
  obtain ⟨b1, b2, b3, b4⟩ := hA mA a1 a2 a3 a4
  rw [hX]
  refine ⟨_, N2, ?_, b1, b2, b3, b4⟩
  intro y hy
  by_cases q : y = name
  · rw [q]; exact hin
  · exact hw y (by simpa [q] using hy)
theorem rd_clear {a : Addr} {l : List Nat} {g : Heap} {L : Addr} {m : List (Str × Value)} {own : List (Addr × (Obj → Prop))} {s₀ : Shared} {Q : Value → Shared → Prop} (H : St g L m own s₀ s) (G : Gd g L own σ) (x : Sor prog w s.heap σ) (hr : σ.rd = some (a, l)) (hz : l.length ≤ 1000)
    (h : ∀ s', St g L m own s₀ s' → Sor prog w s'.heap { σ with rd := some (a, []) } → Gd g L own { σ with rd := some (a, []) } → Q .none s') :
    wpAny (model prog w) A (call (.builtin "list.clear") [.ref a]) Q E s := by
  obtain ⟨vs, ⟨n, hl⟩, hi⟩ := x.r _ hr
  have hvl : vs.length = l.length := by rw [hi.length]; simp [nums]
  have hzz : vs.toArray.size ≤ sizeLine := by
    have : 1000 ≤ sizeLine := by decide
    simp only [List.size_toArray]; omega
  refine wpAny_call_entry F.slot_list_clear ⟨_, hl, rfl⟩ F.entry_list_clear ?_ (F.args_list_clear_1 _)
  show wpAny _ _ (Builtin.List.listItems (.ref a) >>= fun old => updateSeq a (fun _ => #[]) >>= fun _ => letGo old.toList.reverse >>= fun _ => ret .none) _ _ s
  refine wpAny_bind ?_
  unfold Builtin.List.listItems
  refine wpAny_bind (wpAny_seqItems hl rfl (wpAny_pure ?_))
  refine wpAny_bind (wpAny_updateSeq (hz := hzz) hl rfl ?_)
  have hS₂ := Heap.get?_update_self (Obj.mapSeq (fun _ => (#[] : Array Value))) hl rfl
  obtain ⟨n', e'⟩ := Obj.data_mapSeq (o := { cls := .type "list", data := .seq vs.toArray n }) rfl (fun _ => (#[] : Array Value))
  refine wpAny_bind (wpAny_letGo (wpAny_pure ⟨_, rfl, ?_⟩))
  have ha := G a (mem_vs.mpr (.inr (.inr (.inr (.inr ⟨_, hr, rfl⟩)))))
  have sb := Heap.SameBut.update s.heap a (Obj.mapSeq fun _ => (#[] : Array Value))
  have e3 : ({ s with heap := s.heap.update a (Obj.mapSeq fun _ => (#[] : Array Value)) } : Shared) = { s with heap := s.heap.update a (Obj.mapSeq fun _ => (#[] : Array Value)), toks := s.toks } := rfl
  rw [e3]
  refine h _ (H.upd sb ha.2.1 ha.1 ha.2.2) (x.set_rd hr (l' := []) ⟨[], ⟨n', ?_⟩, .nil⟩ sb) ?_
  · refine hS₂.trans (congrArg some ?_)
    rw [← e']; rfl
  · intro b hb
    refine G b ?_
    rw [mem_vs] at hb ⊢
    simpa [hr] using hb
end
end Mine
end

-- Q14
section
open PySem PySem.W PyProof.Rows PySem.Calls
set_option Elab.async false
set_option linter.unusedVariables false
set_option linter.unusedSimpArgs false
namespace Mine
theorem boot_tuple : bootBuiltins (Str.ofString "tuple") = some (.type "tuple") := by kernel_rfl
structure In (w : World) (s : Shared) (σ : Sg) (g : Heap) : Prop where
  keep : ∀ b o, b ∉ σ.vs → s.heap.get? b = some o → g.get? b = some o
  hid : ∀ a ∈ σ.vs, g.get? a = none
  bs : Bs w g
theorem In.of {w : World} {s : Shared} {σ : Sg} (B : Bs w (hideAll s.heap σ.vs)) : In w s σ (hideAll s.heap σ.vs) := ⟨fun b o hb e => hideAll_get _ e hb, fun a ha => hideAll_none _ ha, B⟩
theorem In.aft {prog : Program} {w : World} {s s' : Shared} {σ σ' : Sg} {g : Heap} {L : Addr} {m : List (Str × Value)} {own : List (Addr × (Obj → Prop))} (i : In w s σ g) (H : St g L m own s s') (x : Sor prog w s'.heap σ') (G : ∀ a ∈ σ'.vs, g.get? a = none) : Aft prog w s σ σ' s' := by
  refine ⟨x, ⟨H.near, fun b o hb e => H.keep b o (i.keep b o hb e)⟩, fun a ha => ?_⟩
  by_cases hav : a ∈ σ.vs
  · exact .inl hav
  · refine .inr ?_
    cases q : s.heap.get? a with
    | none => rfl
    | some o => have := G a ha; rw [i.keep a o hav q] at this; cases this
section
variable {prog : Program} {w : World} {A : Around} {E : Value → Shared → Prop} {env : Env} {s : Shared} {σ : Sg}
theorem In.mono {g g' : Heap} (i : In w s σ g) (k : ∀ b o, g.get? b = some o → g'.get? b = some o) (h : ∀ a ∈ σ.vs, g'.get? a = none) : In w s σ g' := ⟨fun b o hb e => k b o (i.keep b o hb e), h, i.bs.keeps k⟩
theorem St.frzX {g : Heap} {L : Addr} {m : List (Str × Value)} {own : List (Addr × (Obj → Prop))} {s₀ : Shared} (H : St g L m own s₀ s) (G : Gd g L own σ) : ∃ g', St g' L m own s₀ s ∧ Gd g' L own σ ∧ (∀ b o, g.get? b = some o → g'.get? b = some o) ∧
    ∀ b o, s.heap.get? b = some o → b ≠ L → (∀ p ∈ own, p.1 ≠ b) → b ∉ σ.vs → g'.get? b = some o := by
  have k3 : ∀ b o, s.heap.get? b = some o → b ≠ L → (∀ p ∈ own, p.1 ≠ b) → b ∉ σ.vs → (hideAll s.heap (L :: (own.map (·.1) ++ σ.vs))).get? b = some o := fun b o e h1 h2 h3 => hideAll_get _ e fun q => by
    rcases List.mem_cons.mp q with q | q
    · exact h1 q
    · rcases List.mem_append.mp q with q | q
      · obtain ⟨p, hp, e⟩ := List.mem_map.mp q
        exact h2 p hp e
      · exact h3 q
  refine ⟨hideAll s.heap (L :: (own.map (·.1) ++ σ.vs)), ⟨H.near, H.ns, fun b o e => of_hideAll _ e, hideAll_none _ (by simp), fun p hp => ⟨(H.owns p hp).1, (H.owns p hp).2.1, hideAll_none _ (List.mem_cons_of_mem _ (List.mem_append_left _ (List.mem_map.mpr ⟨p, hp, rfl⟩)))⟩, H.apart⟩,
    fun a ha => ⟨hideAll_none _ (List.mem_cons_of_mem _ (List.mem_append_right _ ha)), (G a ha).2⟩, fun b o e => ?_, k3⟩
  exact k3 b o (H.keep b o e) (fun q => by rw [q, H.above] at e; cases e) (fun p hp q => by have := (H.owns p hp).2.2; rw [q, e] at this; cases this) (fun q => by have := (G b q).1; rw [e] at this; cases this)
theorem tup_list {a : Addr} {vs : List Value} {Q : Value → Shared → Prop} (hl : s.heap.IsList a vs.toArray) (hz : vs.length ≤ 1000) (h : ∀ T s', s.heap.get? T = none → Kp s s' → s'.heap.get? T = some { cls := .type "tuple", data := .seq vs.toArray } → Q (.ref T) s') :
    wpAny (model prog w) A (call (.type "tuple") [.ref a]) Q E s := by
  refine call_tuple_list hl (fun h' k => ?_) ?_
  · refine h _ _ ?_ ⟨⟨_, s.toks, rfl⟩, fun b o e => Heap.get?_push_of_some _ (k b o e)⟩ (Heap.get?_push_size _ rfl)
    cases q : s.heap.get? h'.objs.size with
    | none => rfl
    | some o => have := Heap.lt_size (k _ _ q); exact absurd this (Nat.lt_irrefl _)
  · have : 1000 ≤ sizeLine := by decide
    simp only [List.size_toArray]; omega
theorem ready_spec {a : Addr} {l : List Nat} (Rm : Room A 3 30) (B : Bs w (hideAll s.heap σ.vs)) (x : Sor prog w s.heap σ) (hr : σ.rd = some (a, l)) (hz : l.length ≤ 1000) (hl : ∀ k ∈ l, k ∈ σ.ord) :
    wpAny (model prog w) A (call (.ref 150) [.ref σ.X]) (fun v s' => ∃ T vs, v = .ref T ∧ s.heap.get? T = none ∧ s'.heap.get? T = some { cls := .type "tuple", data := .seq vs.toArray } ∧ IntsAre vs (nums l) ∧
      T ∉ σ.vs ∧ Aft prog w s σ { σ with np := fun j => if j ∈ l then -1 else σ.np j, rd := some (a, []), po := σ.po + (l.length : Int) } s') E s := by
  have hz : (fun (_ : PySem.W.OpenLaw × (Params → Frag)) => True) (PySem.Challenge.rw_of0070_01, Mine.hd.heap_39) := by (k_fill; trivial)
  refine opqQ fun Q hQ => ?_
  refine wpAny_call (enterR (B.keeps fun b o e => of_hideAll _ e) Rm.low (by k_is) (by k_is) (BindsTo.of_eq rfl) (locs rfl) ?_)
  intro s' A1 DA H
  replace Rm := Rm.deep DA (d' := 2) (u' := 27) (by decide) (by decide)
  have hLV : ∀ a ∈ σ.vs, a ≠ s.heap.objs.size := fun a ha => x.vs_lt ha
  generalize s.heap.objs.size = L at H hLV ⊢
  replace H : St s.heap L [(Str.ofString "self", .ref σ.X)] [] s s' := H
  have x1 := x.keeps H.keep
  have i0 := In.of B
  have G : Gd (hideAll s.heap σ.vs) L [] σ := fun a ha => ⟨hideAll_none _ ha, hLV a ha, by simp⟩
  replace H := H.base (g := hideAll s.heap σ.vs) (fun b o e => of_hideAll _ e)
  generalize hideAll s.heap σ.vs = g at H G i0 B
  with_reducible refine x_if ?_
  refine t_cmp ?_
  with_reducible refine e_attr ?_
  refine n_loc H.ns rfl ?_
  refine at_rd (H.bs B) x1 ?_
  intro s2 k2
  replace H := H.keeps k2
  replace x1 := x1.keeps k2.get
  refine wpAny_Constant_none ?_
  rw [hr]
  refine is_none (tru_b ?_)
  have e0 : (rdv (some (a, l)) == Value.none) = false := rfl
  refine ite_f (e0) ?_
  refine x_nil ?_
  -- result = tuple(self._ready_nodes)
  with_reducible refine x_assign ?_ (by kernel_rfl)
  with_reducible refine c_ty (H.bs B) (by k_is) boot_tuple ?_
  with_reducible refine i_cons ?_
  with_reducible refine e_attr ?_
  refine n_loc H.ns rfl ?_
  refine at_rd (H.bs B) x1 ?_
  intro s3 k3
  replace H := H.keeps k3
  replace x1 := x1.keeps k3.get
  rw [hr]
  with_reducible refine i_nil ?_
  obtain ⟨vs, hvs, hi⟩ := x1.r _ hr
  have hvl : vs.length = l.length := by rw [hi.length]; simp [nums]
  refine tup_list (plain_list hvs) (by omega) ?_
  intro T s4 hT k4 eT
  have H3 := H
  have i00 := i0.keep
  replace H := H.keeps k4
  have x3 := x1
  replace x1 := x1.keeps k4.get
  have d1 : σ.dX ≠ L := (G _ (mem_vs.mpr (.inl rfl))).2.1
  have n1 : σ.N ≠ L := (G _ (mem_vs.mpr (.inr (.inl rfl)))).2.1
  have hTV : T ∉ σ.vs := fun q => by obtain ⟨o, e⟩ := x3.vs_in q; rw [hT] at e; cases e
  have hTL : T ≠ L := fun e => by
    obtain ⟨o, _, _, ho, _⟩ := H3.ns
    rw [← e, hT] at ho; cases ho
  obtain ⟨g1, H, G, kg1, k1⟩ := H.frzX G
  have gT := k1 T _ eT hTL (by simp) hTV
  replace i0 := i0.mono kg1 (fun a ha => (G a ha).1)
  replace B := i0.bs
  have hTs : s.heap.get? T = none := by
    cases q : s.heap.get? T with
    | none => rfl
    | some o => have := H3.keep _ _ (i00 T o hTV q); rw [hT] at this; cases this
  clear kg1 k1 H3 i00
  refine s_locX H x1 d1 n1 ?_ ⟨Str.ofString "self", _, rfl⟩
  intro s5 H x1
  -- n2i = self._node2info
  with_reducible refine x_assign ?_ (by kernel_rfl)
  with_reducible refine e_attr ?_
  refine n_loc H.ns rfl ?_
  refine at_n2i (H.bs B) x1 ?_
  intro s6 k6
  replace H := H.keeps k6
  replace x1 := x1.keeps k6.get
  refine s_locX H x1 d1 n1 ?_ ⟨Str.ofString "self", _, rfl⟩
  intro s7 H x1
  -- for node in result
  refine x_forXK (n := vs.length) (P := fun i v => vs[i]? = some v) (fun i m own σ' => own = [] ∧ σ' = { σ with np := fun j => if j ∈ l.take i then -1 else σ.np j } ∧ m.lookup (Str.ofString "self") = some (.ref σ.X) ∧ m.lookup (Str.ofString "n2i") = some (.ref σ.N) ∧ m.lookup (Str.ofString "result") = some (.ref T)) H x1 G ?_ ?_ ?_ ?_ ?_
  · refine n_loc H.ns rfl ?_
    refine ⟨Kp.same _, srcY_tuple Rm.hh ⟨_, H.keep _ _ gT, rfl, 0, rfl⟩ ?_⟩
    intro it s9 h9
    refine ⟨_, h9, ?_⟩
    intro b hb
    rw [List.mem_singleton.mp hb]
    exact ⟨hTL, by simp, hTV⟩
  · exact ⟨rfl, by simp, rfl, rfl, rfl⟩
  · rintro i m own σ' ⟨_, _, h, _⟩
    exact ⟨_, _, h⟩
  · rintro i v m own σ3 g3 s9 E3 K1 kn1 kr1 hin hv ⟨rfl, h3e, hself, hn2i, hres⟩ kg3 H x3 G3
    have hN3 : σ3.N = σ.N := by rw [h3e]
    have ho3 : σ3.ord = σ.ord := by rw [h3e]
    have B3 : Bs w g3 := B.keeps kg3
    obtain ⟨n, tn, hn, rfl⟩ := ints_get hi hv
    unfold nums at hn
    rw [List.getElem?_map] at hn
    obtain ⟨p, hp1, rfl⟩ := Option.map_eq_some_iff.mp hn
    have hpo : p ∈ σ3.ord := ho3 ▸ hl p (List.mem_of_getElem? hp1)
    have hn2i' := hn2i
    rw [← hN3] at hn2i'
    with_reducible refine x_seta ?_ (by kernel_rfl)
    refine n_glob (H.bs B3) (by k_is) ?_
    refine e_ditem ?_
    refine n_loc H.ns hn2i' ?_
    refine n_loc H.ns rfl ⟨σ3, p, tn, rfl, rfl, x3, hpo, ?_⟩
    intro s10 k10
    replace H := H.keeps k10
    replace x3 := x3.keeps k10.get
    refine i_set B3 H G3 x3 hpo ?_
    intro s11 H x4 G4
    refine x_nil (kn1 _ _ _ _ H x4 G4 ⟨rfl, ?_, hself, hn2i, hres⟩).1
    subst h3e
    congr 1
    funext j
    rw [List.take_add_one, hp1]
    by_cases hj : j = p
    · subst hj; simp
    · simp [hj]
  · rintro m own σ3 s9 ⟨rfl, h3e, hself, hn2i, hres⟩ H x3 G3
    have el : l.take vs.length = l := by rw [hvl]; simp
    rw [el] at h3e
    have hX3 : σ3.X = σ.X := by rw [h3e]
    have hr3 : σ3.rd = some (a, l) := by rw [h3e]; exact hr
    rw [← hX3] at hself
    -- self._ready_nodes.clear()
    with_reducible refine x_expr ?_ (by kernel_rfl) (by kernel_rfl)
    with_reducible refine m_call ?_
    with_reducible refine e_attr ?_
    refine n_loc H.ns hself ?_
    refine at_rd (H.bs B) x3 ?_
    intro s10 k10
    replace H := H.keeps k10
    replace x3 := x3.keeps k10.get
    rw [hr3]
    obtain ⟨ws, hws, _⟩ := x3.r (a, l) hr3
    refine gm_list F.slot_list_clear F.type_list_clear hws ?_
    with_reducible refine cw0 ?_
    refine rd_clear (a := a) (l := l) H G3 x3 hr3 (by omega) ?_
    intro s11 H x4 G4
    refine ⟨rfl, ?_⟩
    obtain ⟨σ4, h4e⟩ : ∃ σ4 : Sg, σ4 = { σ3 with rd := some (a, []) } := ⟨_, rfl⟩
    rw [← h4e] at x4 G4
    have hX4 : σ3.X = σ4.X := by rw [h4e]
    rw [hX4] at hself
    -- self._npassedout += len(result)
    refine wpAny_execs_cons (wpAny_AugAssign_AttributeAny ?_)
    refine n_loc H.ns hself ?_
    refine at_po (H.bs B) x4 ?_
    intro t12 s12 k12
    replace H := H.keeps k12
    replace x4 := x4.keeps k12.get
    with_reducible refine c_bi (H.bs B) (by k_is) boot_len ?_
    with_reducible refine i_cons ?_
    refine n_loc H.ns hres ?_
    with_reducible refine i_nil ?_
    refine len_t (vs := vs) (H.keep _ _ gT) (by omega) ?_
    intro t13 s13 k13
    replace H := H.keeps k13
    replace x4 := x4.keeps k13.get
    refine iadd_i ?_
    intro t14 s14 k14
    replace H := H.keeps k14
    replace x4 := x4.keeps k14.get
    obtain ⟨σ5, h5e⟩ : ∃ σ5 : Sg, σ5 = { σ4 with po := σ4.po + (vs.length : Int) } := ⟨_, rfl⟩
    refine set_X (σ' := σ5) B H G4 x4 (by k_is) (by k_is) (by decide) (by rw [h5e]) ?_ ?_ ?_
    · intro mA b1 b2 b3 b4
      refine ⟨b1, ?_, ⟨t14, ?_⟩, ?_⟩
      · rw [h5e]; exact b2
      · rw [h5e]; rfl
      · rw [h5e]; exact b4
    · intro p hp
      rw [h5e] at hp
      exact ⟨x4.r p hp, x4.rS p hp⟩
    intro s15 H x5 _
    with_reducible refine x_ret ?_
    refine n_loc H.ns hres ?_
    have e5 : σ5 = { σ with np := fun j => if j ∈ l then -1 else σ.np j, rd := some (a, []), po := σ.po + (l.length : Int) } := by
      rw [h5e, h4e, h3e, hvl]
    have G5 : ∀ b ∈ σ5.vs, g1.get? b = none := by
      intro b hb
      rw [h5e] at hb
      exact (G4 b hb).1
    rw [e5] at x5 G5
    exact hQ _ _ ⟨T, vs, rfl, hTs, H.keep _ _ gT, hi, hTV, i0.aft H x5 G5⟩
end
end Mine
end

-- Q15
section
open PySem PySem.W PyProof.Rows PySem.Calls
set_option Elab.async false
set_option linter.unusedVariables false
set_option linter.unusedSimpArgs false
namespace Mine
abbrev NR := (Nat → Int) × List Nat
noncomputable def decr (q : NR) (j : Nat) : NR := ((fun i => if i = j then q.1 j - 1 else q.1 i), if q.1 j - 1 = 0 then q.2 ++ [j] else q.2)
noncomputable def fin1 (sc : Nat → List Nat) (q : NR) (k : Nat) : NR := (sc k).foldl decr ((fun i => if i = k then -2 else q.1 i), q.2)
noncomputable def finA (sc : Nat → List Nat) (q : NR) (ks : List Nat) : NR := ks.foldl (fin1 sc) q
theorem decr_len (q : NR) (j : Nat) : (decr q j).2.length ≤ q.2.length + 1 := by
  unfold decr; dsimp only; split <;> simp
section
variable {prog : Program} {w : World} {A : Around} {E : Value → Shared → Prop} {env : Env} {s : Shared} {σ : Sg}
theorem rd_app {a : Addr} {l : List Nat} {j : Nat} {t : Tok} {g : Heap} {L : Addr} {m : List (Str × Value)} {own : List (Addr × (Obj → Prop))} {s₀ : Shared} {Q : Value → Shared → Prop} (H : St g L m own s₀ s) (G : Gd g L own σ) (x : Sor prog w s.heap σ) (hr : σ.rd = some (a, l)) (hz : l.length ≤ 1000)
    (h : ∀ s', St g L m own s₀ s' → Sor prog w s'.heap { σ with rd := some (a, l ++ [j]) } → Gd g L own { σ with rd := some (a, l ++ [j]) } → Q .none s') :
    wpAny (model prog w) A (call (.builtin "list.append") [.ref a, .int (j : Int) t]) Q E s := by
  obtain ⟨vs, hl, hi⟩ := x.r _ hr
  have hvl : vs.length = l.length := by rw [hi.length]; simp [nums]
  have hzz : vs.toArray.size ≤ sizeLine := by
    have : 1000 ≤ sizeLine := by decide
    simp only [List.size_toArray]; omega
  refine wpAny_list_append_plain (hsz := hzz) hl fun h' hl' hs' => ?_
  have ha := G a (mem_vs.mpr (.inr (.inr (.inr (.inr ⟨_, hr, rfl⟩)))))
  have : ({ s with heap := h' } : Shared) = { s with heap := h', toks := s.toks } := rfl
  rw [this]
  refine h _ (H.upd hs' ha.2.1 ha.1 ha.2.2) (x.set_rd hr (l' := l ++ [j]) ⟨vs ++ [.int (j : Int) t], ?_, ?_⟩ hs') ?_
  · simpa using hl'
  · unfold nums
    rw [List.map_append]
    exact ints_snoc hi
  · intro b hb
    refine G b ?_
    rw [mem_vs] at hb ⊢
    simpa [hr] using hb
end
end Mine
end

-- Q16
section
open PySem PySem.W PyProof.Rows PySem.Calls
set_option Elab.async false
set_option linter.unusedVariables false
set_option linter.unusedSimpArgs false
namespace Mine
noncomputable def fst (σ : Sg) (a : Addr) (q : NR) (f : Int) : Sg := { σ with np := q.1, rd := some (a, q.2), fi := f }
section
variable {prog : Program} {w : World} {A : Around} {E : Value → Shared → Prop} {env : Env} {s : Shared} {σ : Sg}
theorem isub_i {a b : Int} {t u : Tok} {Q : Value → Shared → Prop} (h : ∀ t s', Kp s s' → Q (.int (a - b) t) s') : wpAny (model prog w) A (inplaceOp .Sub (.int a t) (.int b u)) Q E s := P.isub_int (h _ _ (Kp.tok _ _))
set_option maxHeartbeats 1000000 in
theorem done_code {a : Addr} {l0 : List Nat} {vs : List Value} {ks : List Nat} (Rm : Room A 3 30) (B : Bs w (hideAll s.heap σ.vs)) (x : Sor prog w s.heap σ) (hr : σ.rd = some (a, l0)) (hfz : σ.fz = true) (hi : IntsAre vs (nums ks)) (h5 : ks.length ≤ 5) (hl0 : l0.length ≤ 100)
    (hks : ∀ k ∈ ks, k ∈ σ.ord) (hscm : ∀ k ∈ σ.ord, ∀ j ∈ σ.sc k, j ∈ σ.ord) (hscl : ∀ k ∈ σ.ord, (σ.sc k).length ≤ 100)
    (hout : ∀ (i : Nat) k, ks[i]? = some k → (finA σ.sc (σ.np, l0) (ks.take i)).1 k = -1) :
    codeAny (model prog w) A (.call (.ref 171) ⟨.ref σ.X :: vs, []⟩) (fun r s' => match r with | .ok (.ret v) => v = .none ∧ Aft prog w s σ (fst σ a (finA σ.sc (σ.np, l0) ks) (σ.fi + ks.length)) s' | .ok _ => False | .error e => E e s') s := by
  have hz : (fun (_ : PySem.W.OpenLaw × (Params → Frag)) => True) (PySem.Challenge.rw_of0070_01, Mine.hd.heap_39) := by (k_fill; trivial)
  have hvl : vs.length = ks.length := by rw [hi.length]; simp [nums]
  refine opqR fun R hR => ?_
  refine enterV (vs := vs) (front := [(Str.ofString "self", .ref σ.X)]) (nm := Str.ofString "nodes") (B.keeps fun b o e => of_hideAll _ e) Rm.low (by k_is) (by k_is) ?_ ?_ ?_ ?_
  · rcases vs with _ | ⟨a, _ | ⟨b, _ | ⟨c, _ | ⟨d, _ | ⟨e, _ | ⟨f, r⟩⟩⟩⟩⟩⟩
    · rfl
    · rfl
    · rfl
    · rfl
    · rfl
    · rfl
    · simp at hvl; omega
  · have : 5 ≤ sizeLine := by decide
    omega
  · intro u y hy
    rcases List.mem_cons.mp hy with rfl | hy
    · rfl
    rw [List.mem_singleton.mp hy]; rfl
  intro D L s' A1 DA hD hL hDL hg
  obtain ⟨g0, kg0, gD, H⟩ := hg
  replace Rm := Rm.deep DA (d' := 2) (u' := 27) (by decide) (by decide)
  replace H : St g0 L [(Str.ofString "nodes", .ref D), (Str.ofString "self", .ref σ.X)] [] s s' := H
  have x1 := x.keeps fun b o e => H.keep b o (kg0 b o e)
  have hLV : ∀ a ∈ σ.vs, a ≠ L := fun a ha e => by obtain ⟨o, q⟩ := x.vs_in ha; rw [e, hL] at q; cases q
  have hDV : D ∉ σ.vs := fun ha => by obtain ⟨o, q⟩ := x.vs_in ha; rw [hD] at q; cases q
  have G : Gd (hideAll g0 σ.vs) L [] σ := fun a ha => ⟨hideAll_none _ ha, hLV a ha, by simp⟩
  replace H := H.base (g := hideAll g0 σ.vs) (fun b o e => of_hideAll _ e)
  have i0 : In w s σ (hideAll g0 σ.vs) := (In.of B).mono (fun b o e => by
    by_cases hb : b ∈ σ.vs
    · rw [hideAll_none _ hb] at e; cases e
    · exact hideAll_get _ (kg0 b o (of_hideAll _ e)) hb) (fun a ha => hideAll_none _ ha)
  replace gD : (hideAll g0 σ.vs).get? D = some { cls := .type "tuple", data := .seq vs.toArray } := hideAll_get _ gD hDV
  generalize hideAll g0 σ.vs = g at H G gD i0
  replace B := i0.bs
  have d1 : σ.dX ≠ L := (G _ (mem_vs.mpr (.inl rfl))).2.1
  have n1 : σ.N ≠ L := (G _ (mem_vs.mpr (.inr (.inl rfl)))).2.1
  with_reducible refine x_if ?_
  refine t_cmp ?_
  with_reducible refine e_attr ?_
  refine n_loc H.ns rfl ?_
  refine at_rd (H.bs B) x1 ?_
  intro s2 k2
  replace H := H.keeps k2
  replace x1 := x1.keeps k2.get
  refine wpAny_Constant_none ?_
  rw [hr]
  refine is_none (tru_b ?_)
  have e0 : (rdv (some (a, l0)) == Value.none) = false := rfl
  refine ite_f (e0) ?_
  refine x_nil ?_
  -- n2i = self._node2info
  with_reducible refine x_assign ?_ (by kernel_rfl)
  with_reducible refine e_attr ?_
  refine n_loc H.ns rfl ?_
  refine at_n2i (H.bs B) x1 ?_
  intro s3 k3
  replace H := H.keeps k3
  replace x1 := x1.keeps k3.get
  refine s_locX H x1 d1 n1 ?_ ⟨Str.ofString "self", _, rfl⟩
  intro s4 H x1
  -- for node in nodes
  refine x_forXK (n := vs.length) (P := fun i v => vs[i]? = some v) (fun i m own σ' => own = [] ∧ σ' = fst σ a (finA σ.sc (σ.np, l0) (ks.take i)) (σ.fi + (i : Int)) ∧ i ≤ ks.length ∧ (finA σ.sc (σ.np, l0) (ks.take i)).2.length ≤ 100 + 100 * i ∧ m.lookup (Str.ofString "self") = some (.ref σ.X) ∧ m.lookup (Str.ofString "n2i") = some (.ref σ.N)) H x1 G ?_ ?_ ?_ ?_ ?_
  · refine n_loc H.ns rfl ?_
    refine ⟨Kp.same _, srcY_tuple Rm.hh ⟨_, H.keep _ _ gD, rfl, 0, rfl⟩ ?_⟩
    intro it s9 h9
    refine ⟨_, h9, ?_⟩
    intro b hb
    rw [List.mem_singleton.mp hb]
    exact ⟨hDL, by simp, hDV⟩
  · refine ⟨rfl, ?_, by omega, by simpa [finA] using hl0, rfl, rfl⟩
    unfold fst finA
    simp [← hr]
  · rintro i m own σ' ⟨_, _, _, _, h, _⟩
    exact ⟨_, _, h⟩
  · rintro i v m own σ3 g3 s9 E3 K1 kn1 kr1 hin hv ⟨rfl, h3e, hik, hlen, hself, hn2i⟩ kg3 H x3 G3
    have B3 : Bs w g3 := B.keeps kg3
    obtain ⟨n, tn, hn, rfl⟩ := ints_get hi hv
    unfold nums at hn
    rw [List.getElem?_map] at hn
    obtain ⟨k, hk1, rfl⟩ := Option.map_eq_some_iff.mp hn
    have hko : k ∈ σ.ord := hks k (List.mem_of_getElem? hk1)
    have ho3 : σ3.ord = σ.ord := by rw [h3e]; rfl
    have hN3 : σ3.N = σ.N := by rw [h3e]; rfl
    have hX3 : σ3.X = σ.X := by rw [h3e]; rfl
    have hsc3 : σ3.sc = σ.sc := by rw [h3e]; rfl
    have hk3 : k ∈ σ3.ord := ho3 ▸ hko
    have hnp3 : σ3.np k = -1 := by rw [h3e]; exact hout i k hk1
    have d3 : σ3.dX ≠ L := (G3 _ (mem_vs.mpr (.inl rfl))).2.1
    have n3 : σ3.N ≠ L := (G3 _ (mem_vs.mpr (.inr (.inl rfl)))).2.1
    have hn2i3 : m.lookup (Str.ofString "n2i") = some (.ref σ3.N) := by rw [hN3]; exact hn2i
    have hself3 : m.lookup (Str.ofString "self") = some (.ref σ3.X) := by rw [hX3]; exact hself
    -- if (nodeinfo := n2i.get(node)) is None
    with_reducible refine x_if ?_
    refine t_cmp ?_
    with_reducible refine wpAny_NamedExpr ?_
    with_reducible refine m_call ?_
    refine n_loc H.ns hn2i3 ?_
    refine gm_dict F.slot_dict_get F.type_dict_get x3.n ?_
    with_reducible refine cw1 ?_
    with_reducible refine i_cons ?_
    refine n_loc H.ns rfl ?_
    with_reducible refine i_nil ?_
    refine call_get x3 ?_
    intro s10 k10
    replace H := H.keeps k10
    replace x3 := x3.keeps k10.get
    have eg : (if k ∈ σ3.ord then some (Value.ref (σ3.I k)) else none).getD .none = .ref (σ3.I k) := by simp [hk3]
    rw [eg]
    refine wpAny_assign_Name (s_locX H x3 d3 n3 ?_ ⟨Str.ofString "self", _, hself⟩)
    intro s11 H x3
    refine wpAny_Constant_none ?_
    refine is_none (tru_b ?_)
    have e1 : (Value.ref (σ3.I k) == Value.none) = false := rfl
    refine ite_f (e1) ?_
    refine x_nil ?_
    -- stat = nodeinfo.npredecessors
    with_reducible refine x_assign ?_ (by kernel_rfl)
    with_reducible refine e_attr ?_
    refine n_loc H.ns rfl ?_
    refine i_np (H.bs B3) x3 hk3 ?_
    intro t12 s12 k12
    replace H := H.keeps k12
    replace x3 := x3.keeps k12.get
    rw [hnp3]
    refine s_locX H x3 d3 n3 ?_ ⟨Str.ofString "self", _, hself⟩
    intro s13 H x3
    -- if stat != _NODE_OUT
    with_reducible refine x_if ?_
    refine t_cmp ?_
    refine n_loc H.ns rfl ?_
    refine n_glob (H.bs B3) (by k_is) ?_
    refine P.ne_int (tru_b ?_)
    have e2 : ((-1 : Int) != -1) = false := rfl
    refine ite_f (e2) ?_
    refine x_nil ?_
    -- nodeinfo.npredecessors = _NODE_DONE
    with_reducible refine x_seta ?_ (by kernel_rfl)
    refine n_glob (H.bs B3) (by k_is) ?_
    refine n_loc H.ns rfl ?_
    refine i_set B3 H G3 x3 hk3 ?_
    intro s14 H x4 G4
    obtain ⟨σ4, h4e⟩ : ∃ σ4 : Sg, σ4 = { σ3 with np := fun j => if j = k then -2 else σ3.np j } := ⟨_, rfl⟩
    rw [← h4e] at x4 G4
    have hI4 : σ4.I = σ3.I := by rw [h4e]
    have hS4 : σ4.S = σ3.S := by rw [h4e]
    have ho4 : σ4.ord = σ.ord := by rw [h4e]; exact ho3
    have hsc4 : σ4.sc = σ.sc := by rw [h4e]; exact hsc3
    have hk4 : k ∈ σ4.ord := ho4 ▸ hko
    have hfz4 : σ4.fz = true := by rw [h4e, h3e]; exact hfz
    obtain ⟨q, hq⟩ : ∃ q : NR, q = finA σ.sc (σ.np, l0) (ks.take i) := ⟨_, rfl⟩
    rw [← hq] at h3e hlen
    obtain ⟨q2, hq2⟩ : ∃ q2 : NR, q2 = ((fun j => if j = k then -2 else q.1 j), q.2) := ⟨_, rfl⟩
    have h4f : σ4 = fst σ a q2 (σ.fi + (i : Int)) := by rw [h4e, h3e, hq2]; rfl
    have hSL : ListK s14.heap (σ4.S k) (σ4.sc k) := x4.s k hk4
    have hSV : σ4.S k ∉ σ4.vs := by
      intro hm
      obtain ⟨z1, z2, z3, z4, _⟩ := x4.nl hSL
      rcases mem_vs.mp hm with e | e | ⟨j, hj, e⟩ | ⟨j, hj, hf, e⟩ | ⟨p, hp, e⟩
      · exact z2 e.symm
      · exact z3 e.symm
      · exact z4 j hj e
      · rw [hfz4] at hf; cases hf
      · exact x4.rS p hp k hk4 e
    have hSLn : σ4.S k ≠ L := by
      obtain ⟨ws, nn, ew⟩ := hSL.ob
      obtain ⟨oL, es, ep, eL, dL, _⟩ := H.ns
      intro e
      rw [e, eL] at ew; cases ew; cases dL
    obtain ⟨us, hus, hui⟩ := hSL
    have hul : us.length = (σ.sc k).length := by rw [hui.length, hsc4]; simp [nums]
    have hsl : (σ.sc k).length ≤ 100 := hscl k hko
    refine x_forXK (n := us.length) (P := fun i v => us[i]? = some v) (fun i' m own σ' => own = [] ∧ σ' = fst σ a (((σ.sc k).take i').foldl decr q2) (σ.fi + (i : Int)) ∧ (((σ.sc k).take i').foldl decr q2).2.length ≤ 100 + 100 * i + i' ∧ m.lookup (Str.ofString "self") = some (.ref σ.X) ∧ m.lookup (Str.ofString "n2i") = some (.ref σ.N)) H x4 G4 ?_ ?_ ?_ ?_ ?_
    · with_reducible refine e_attr ?_
      refine n_loc H.ns rfl ?_
      rw [← hI4]
      refine i_sc (H.bs B3) x4 hk4 ?_
      intro s15 k15
      refine ⟨k15, srcY_list Rm.hh (plain_list (hus.at fun o e => k15.get _ o e)) ?_⟩
      intro it s16 h16
      refine ⟨_, h16, ?_⟩
      intro b hb
      rw [List.mem_singleton.mp hb]
      exact ⟨hSLn, by simp, hSV⟩
    · refine ⟨rfl, by simpa using h4f, ?_, hself, hn2i⟩
      rw [hq2]; simpa using hlen
    · rintro i' m own σ' ⟨_, _, _, h, _⟩
      exact ⟨_, _, h⟩
    · rintro i' v m own σ5 g5 s15 E5 K2 kn2 kr2 hin' hv' ⟨rfl, h5e, hlen', hself, hn2i⟩ kg5 H x5 G5
      have B5 : Bs w g5 := B3.keeps kg5
      obtain ⟨n', tn', hn', rfl⟩ := ints_get hui hv'
      unfold nums at hn'
      rw [List.getElem?_map, hsc4] at hn'
      obtain ⟨j, hj1, rfl⟩ := Option.map_eq_some_iff.mp hn'
      have hjo : j ∈ σ.ord := hscm k hko j (List.mem_of_getElem? hj1)
      have ho5 : σ5.ord = σ.ord := by rw [h5e]; rfl
      have hN5 : σ5.N = σ.N := by rw [h5e]; rfl
      have hX5 : σ5.X = σ.X := by rw [h5e]; rfl
      have hj5 : j ∈ σ5.ord := ho5 ▸ hjo
      have d5 : σ5.dX ≠ L := (G5 _ (mem_vs.mpr (.inl rfl))).2.1
      have n5 : σ5.N ≠ L := (G5 _ (mem_vs.mpr (.inr (.inl rfl)))).2.1
      have hn2i5 : m.lookup (Str.ofString "n2i") = some (.ref σ5.N) := by rw [hN5]; exact hn2i
      have hself5 : m.lookup (Str.ofString "self") = some (.ref σ5.X) := by rw [hX5]; exact hself
      obtain ⟨q5, hq5⟩ : ∃ q5 : NR, q5 = ((σ.sc k).take i').foldl decr q2 := ⟨_, rfl⟩
      rw [← hq5] at h5e hlen'
      -- successor_info = n2i[successor]
      with_reducible refine x_assign ?_ (by kernel_rfl)
      refine e_ditem ?_
      refine n_loc H.ns hn2i5 ?_
      refine n_loc H.ns rfl ⟨σ5, j, tn', rfl, rfl, x5, hj5, ?_⟩
      intro s16 k16
      replace H := H.keeps k16
      replace x5 := x5.keeps k16.get
      refine s_locX H x5 d5 n5 ?_ ⟨Str.ofString "self", _, hself⟩
      intro s17 H x5
      -- successor_info.npredecessors -= 1
      refine wpAny_execs_cons (wpAny_AugAssign_AttributeAny ?_)
      refine n_loc H.ns rfl ?_
      refine i_np (H.bs B5) x5 hj5 ?_
      intro t18 s18 k18
      replace H := H.keeps k18
      replace x5 := x5.keeps k18.get
      refine k_int ?_
      intro t19 s19 k19
      replace H := H.keeps k19
      replace x5 := x5.keeps k19.get
      refine isub_i ?_
      intro t20 s20 k20
      replace H := H.keeps k20
      replace x5 := x5.keeps k20.get
      refine i_set B5 H G5 x5 hj5 ?_
      intro s21 H x6 G6
      obtain ⟨σ6, h6e⟩ : ∃ σ6 : Sg, σ6 = { σ5 with np := fun i => if i = j then σ5.np j - 1 else σ5.np i } := ⟨_, rfl⟩
      rw [← h6e] at x6 G6
      have hI6 : σ6.I = σ5.I := by rw [h6e]
      have hX6 : σ6.X = σ5.X := by rw [h6e]
      have ho6 : σ6.ord = σ5.ord := by rw [h6e]
      have hj6 : j ∈ σ6.ord := ho6 ▸ hj5
      have hr6 : σ6.rd = some (a, q5.2) := by rw [h6e, h5e]; rfl
      have hnp6 : σ6.np j = q5.1 j - 1 := by rw [h6e, h5e]; simp [fst]
      have et : (σ.sc k).take (i' + 1) = (σ.sc k).take i' ++ [j] := by rw [List.take_add_one, hj1]; rfl
      have hi100 : i ≤ 5 := by omega
      have hi'100 : i' ≤ 100 := by omega
      -- if successor_info.npredecessors == 0
      with_reducible refine x_if ?_
      refine t_cmp ?_
      with_reducible refine e_attr ?_
      refine n_loc H.ns rfl ?_
      rw [← hI6]
      refine i_np (H.bs B5) x6 hj6 ?_
      intro t22 s22 k22
      replace H := H.keeps k22
      replace x6 := x6.keeps k22.get
      refine k_int ?_
      intro t23 s23 k23
      replace H := H.keeps k23
      replace x6 := x6.keeps k23.get
      rw [hnp6]
      refine eq_i (tru_b ?_)
      by_cases hz0 : q5.1 j - 1 = 0
      · have e3 : (q5.1 j - 1 == 0) = true := by simpa using hz0
        refine ite_t (e3) ?_
        with_reducible refine x_expr ?_ (by kernel_rfl) (by kernel_rfl)
        with_reducible refine m_call ?_
        with_reducible refine e_attr ?_
        rw [hX5, ← hX5, ← hX6] at hself5
        refine n_loc H.ns hself5 ?_
        refine at_rd (H.bs B5) x6 ?_
        intro s24 k24
        replace H := H.keeps k24
        replace x6 := x6.keeps k24.get
        rw [hr6]
        obtain ⟨ws, hws, _⟩ := x6.r (a, q5.2) hr6
        refine gm_list F.slot_list_append F.type_list_append hws ?_
        with_reducible refine cw1 ?_
        with_reducible refine i_cons ?_
        refine n_loc H.ns rfl ?_
        with_reducible refine i_nil ?_
        refine rd_app (j := j) H G6 x6 hr6 (by omega) ?_
        intro s25 H x7 G7
        refine ⟨rfl, x_nil (x_nil (kn2 _ _ _ _ H x7 G7 ⟨rfl, ?_, ?_, hself, hn2i⟩).1)⟩
        · rw [et, List.foldl_append, ← hq5, h6e, h5e]
          unfold fst decr
          simp [hz0]
        · rw [et, List.foldl_append, ← hq5]
          have := decr_len q5 j
          show (decr q5 j).2.length ≤ _
          omega
      · have e3 : (q5.1 j - 1 == 0) = false := by simpa using hz0
        refine ite_f (e3) ?_
        refine x_nil (x_nil (kn2 _ _ _ _ H x6 G6 ⟨rfl, ?_, ?_, hself, hn2i⟩).1)
        · rw [et, List.foldl_append, ← hq5, h6e, h5e]
          unfold fst decr
          simp [hz0]
        · rw [et, List.foldl_append, ← hq5]
          have := decr_len q5 j
          show (decr q5 j).2.length ≤ _
          omega
    · rintro m own σ5 s15 ⟨rfl, h5e, hlen', hself, hn2i⟩ H x5 G5
      have hX5 : σ5.X = σ.X := by rw [h5e]; rfl
      have hself5 : m.lookup (Str.ofString "self") = some (.ref σ5.X) := by rw [hX5]; exact hself
      have et : (σ.sc k).take us.length = σ.sc k := by rw [hul]; simp
      rw [et] at h5e hlen'
      have eq2 : (σ.sc k).foldl decr q2 = fin1 σ.sc q k := by rw [hq2]; rfl
      rw [eq2] at h5e hlen'
      have hf5 : σ5.fi = σ.fi + (i : Int) := by rw [h5e]; rfl
      -- self._nfinished += 1
      refine wpAny_execs_cons (wpAny_AugAssign_AttributeAny ?_)
      refine n_loc H.ns hself5 ?_
      refine at_fi (H.bs B3) x5 ?_
      intro t16 s16 k16
      replace H := H.keeps k16
      replace x5 := x5.keeps k16.get
      refine k_int ?_
      intro t17 s17 k17
      replace H := H.keeps k17
      replace x5 := x5.keeps k17.get
      refine iadd_i ?_
      intro t18 s18 k18
      replace H := H.keeps k18
      replace x5 := x5.keeps k18.get
      obtain ⟨σ6, h6e⟩ : ∃ σ6 : Sg, σ6 = { σ5 with fi := σ5.fi + 1 } := ⟨_, rfl⟩
      refine set_X (σ' := σ6) B3 H G5 x5 (by k_is) (by k_is) (by decide) (by rw [h6e]) ?_ ?_ ?_
      · intro mA b1 b2 b3 b4
        refine ⟨b1, ?_, ?_, ⟨t18, ?_⟩⟩
        · rw [h6e]; exact b2
        · rw [h6e]; exact b3
        · rw [h6e]; rfl
      · intro p hp
        rw [h6e] at hp
        exact ⟨x5.r p hp, x5.rS p hp⟩
      intro s19 H x6 _
      have et2 : ks.take (i + 1) = ks.take i ++ [k] := by rw [List.take_add_one, hk1]; rfl
      have e6 : finA σ.sc (σ.np, l0) (ks.take (i + 1)) = fin1 σ.sc q k := by rw [et2, hq]; unfold finA; rw [List.foldl_append]; rfl
      refine x_nil (kn1 _ _ σ6 _ H x6 ?_ ⟨rfl, ?_, ?_, ?_, hself, hn2i⟩).1
      · intro b hb
        rw [h6e] at hb
        exact G5 b hb
      · rw [e6, h6e, hf5, h5e]
        unfold fst
        congr 1
        push_cast
        omega
      · have := List.getElem?_eq_some_iff.mp hk1
        obtain ⟨h, _⟩ := this
        omega
      · rw [e6]; omega
  · rintro m own σ3 s9 ⟨rfl, h3e, _, _, _⟩ H x3 G3
    have el : ks.take vs.length = ks := by rw [hvl]; simp
    rw [el, hvl] at h3e
    refine x_nil (hR _ _ ⟨rfl, ?_⟩)
    rw [← h3e]
    exact i0.aft H x3 fun b hb => (G3 b hb).1
end
end Mine
end

-- F1
section
open PySem PySem.W PyProof.Rows PySem.Calls
set_option Elab.async false
set_option maxRecDepth 100000
set_option maxHeartbeats 1000000
set_option linter.unusedVariables false
set_option linter.unusedSimpArgs false
namespace Mine
theorem sl_li_ga : Slot "list_iterator" "__getattribute__" "object.__getattribute__" :=
  .of (owner := "object") (n := "__getattribute__") (by rw [typeLookup_type, builtinLookup_eq_fast]; kernel_rfl) (by decide +kernel) (by decide +kernel) (by decide +kernel)
    (by first | exact .inl (by decide +kernel) | exact .inr (by decide +kernel)) (by rw [isSubtype_type]; kernel_rfl)
theorem ty_li_next : typeOf (.builtin "list_iterator.__next__") = pure (.type "wrapper_descriptor") := by show builtinType _ = _; rw [builtinType_eq_fast]; kernel_rfl
theorem sl_wd_get : Slot "wrapper_descriptor" "__get__" "wrapper_descriptor.__get__" :=
  .of (owner := "wrapper_descriptor") (n := "__get__") (by rw [typeLookup_type, builtinLookup_eq_fast]; kernel_rfl) (by decide +kernel) (by decide +kernel) (by decide +kernel)
    (by first | exact .inl (by decide +kernel) | exact .inr (by decide +kernel)) (by rw [isSubtype_type]; kernel_rfl)
theorem en_wd_get : entryFor table "wrapper_descriptor.__get__" = some Builtin.«wrapper_descriptor.__get__» := entryFor_of_tree (by kernel_rfl)
theorem ar_wd_get (a b c : Value) : argsOk "wrapper_descriptor.__get__" ⟨[a, b, c], []⟩ := by unfold argsOk; kernel_rfl
theorem no_wd_set : typeLookup (.type "wrapper_descriptor") "__set__" = pure none := by rw [typeLookup_type, builtinLookup_eq_fast]; kernel_rfl
theorem no_wd_del : typeLookup (.type "wrapper_descriptor") "__delete__" = pure none := by rw [typeLookup_type, builtinLookup_eq_fast]; kernel_rfl
theorem ow_li : (".".intercalate ("list_iterator.__next__".cutAt '.').dropLast) = "list_iterator" := by decide +kernel
theorem sub_li : isSubtype (.type "list_iterator") (.type (".".intercalate ("list_iterator.__next__".cutAt '.').dropLast)) = pure true := by
  rw [ow_li, isSubtype_type]; kernel_rfl
section
variable {prog : Program} {w : World} {A : Around} {E : Value → Shared → Prop} {h : Heap} {g : Array GenState} {d : Drawn} {t : Nat} {os : OsState} {a : Addr} {o : Obj}
theorem wd_get {R : Result → Shared → Prop} (hx : h.get? a = some o) (hc : o.cls = .type "list_iterator")
    (hq : R (.ok (.ret (.ref h.objs.size))) ⟨h.push { cls := .type "method-wrapper", data := .fields #[.builtin "list_iterator.__next__", .ref a] }, g, d, t, os⟩) :
    codeAny (model prog w) A (.call (.builtin "wrapper_descriptor.__get__") ⟨[.builtin "list_iterator.__next__", .ref a, .type "list_iterator"], []⟩) R ⟨h, g, d, t, os⟩ := by
  have hT : (⟨h, g, d, t, os⟩ : Shared).TypeIs (.ref a) "list_iterator" := ⟨_, hx, hc⟩
  have hT5 : (⟨h, g, d, t, os⟩ : Shared).TypeIs (.builtin "list_iterator.__next__") "wrapper_descriptor" := ty_li_next
  have f8 := sub_li
  refine codeAny_call_builtin sl_wd_get.plain en_wd_get (sl_wd_get.check _ _ _ _ _ _ _ _ hT5 (ar_wd_get _ _ _) ?_)
  repeat (any_goals (first | assumption | wp_step))
theorem nx_entry {tk : Tok} {vs : Array Value} {sl : Array (Option Value)} {Q : Fin → Shared → Prop} (hx : h.get? a = some { cls := .type "list_iterator", dict := none, data := .fields vs, slots := sl })
    (hq : Q (.done (.ret (.ref h.objs.size))) ⟨h.push { cls := .type "method-wrapper", data := .fields #[.builtin "list_iterator.__next__", .ref a] }, g, d, t, os⟩) :
    wpAny (model prog w) A (Builtin.«object.__getattribute__» ⟨[.ref a, .str "__next__" tk], []⟩) Q E ⟨h, g, d, t, os⟩ := by
  have hT : (⟨h, g, d, t, os⟩ : Shared).TypeIs (.ref a) "list_iterator" := ⟨_, hx, rfl⟩
  have hT5 : (⟨h, g, d, t, os⟩ : Shared).TypeIs (.builtin "list_iterator.__next__") "wrapper_descriptor" := ty_li_next
  have f4 := slot_listiter_next.lookup
  have f5 := ty_li_next
  have f6 := sl_wd_get.lookup
  have f7 := no_wd_set
  have f8 := no_wd_del
  repeat (any_goals (first | assumption | wp_step))
  refine wd_get hx rfl ?_
  repeat (any_goals (first | assumption | wp_step))
theorem nx_by {tk : Tok} {vs : Array Value} {sl : Array (Option Value)} {Q : Value → Shared → Prop} {b : Bool} (hx : h.get? a = some { cls := .type "list_iterator", dict := none, data := .fields vs, slots := sl })
    (hq : Q (.ref h.objs.size) ⟨h.push { cls := .type "method-wrapper", data := .fields #[.builtin "list_iterator.__next__", .ref a] }, g, d, t, os⟩) :
    wpAny (model prog w) A (getAttrBy (.ref a) (.str "__next__" tk) true b) Q E ⟨h, g, d, t, os⟩ := by
  have hT : (⟨h, g, d, t, os⟩ : Shared).TypeIs (.ref a) "list_iterator" := ⟨_, hx, rfl⟩
  have f2 := sl_li_ga.lookup
  have f3 := sl_li_ga.bind (.ref a)
  unfold getAttrBy
  refine wpAny_holding (wpAny_bind ?_)
  repeat (any_goals (first | assumption | wp_step))
  rw [if_neg (by simp [onTheHeap])]
  repeat (any_goals (first | assumption | wp_step))
  refine codeAny_call_builtin sl_li_ga.plain F.entry_object_getattribute (sl_li_ga.check _ _ _ _ _ _ _ _ hT (F.args_object_getattribute_2 _ _) ?_)
  refine nx_entry hx ?_
  repeat (any_goals (first | assumption | wp_step))
  all_goals trace_state
end
section
variable {prog : Program} {w : World} {A : Around} {E : Value → Shared → Prop} {s : Shared} {env : Env}
noncomputable def wrapObj (I : Addr) : Obj := { cls := .type "method-wrapper", data := .fields #[.builtin "list_iterator.__next__", .ref I] }
theorem at_next {I : Addr} {vs : Array Value} {sl : Array (Option Value)} {b : Bool} {Q : Value → Shared → Prop} (hx : s.heap.get? I = some { cls := .type "list_iterator", dict := none, data := .fields vs, slots := sl })
    (h : ∀ W s', s.heap.get? W = none → Kp s s' → s'.heap.get? W = some (wrapObj I) → Q (.ref W) s') : wpAny (model prog w) A (getAttr (.ref I) (Str.ofString "__next__") b) Q E s := by
  obtain ⟨hp, g, d, t, os⟩ := s
  unfold getAttr
  refine wpAny_bind (wpAny_mkText ?_)
  refine nx_by hx ?_
  exact h _ _ (fresh_size _ (Nat.le_refl _)) (Kp.push ⟨hp, g, d, t, os⟩ _ _) (Heap.get?_push_size _ rfl)
theorem keeps_W {M : Model} {W I : Addr} (h : Heap) (X : h.get? W = some (wrapObj I)) : ∃ k, (k = Keeper.frame ∨ k = Keeper.machine ∨ k = Keeper.boundFrame) ∧ Looks M h (keeperOf (.ref W)) k :=
  ⟨.machine, .inr (.inl rfl), (Looks.ld (part := none) X).andThen .now⟩
theorem kind_li_next : builtinKind "list_iterator.__next__" = some .slot := by decide +kernel
theorem bound_li (I : Addr) : checkBoundCall "list_iterator.__next__" ⟨[.ref I], []⟩ = pure () := by
  have ha := args_listiter_next (.ref I)
  unfold checkBoundCall
  cases hsig : Manifest.signature? "list_iterator.__next__" with
  | none => rfl
  | some sig =>
    simp only [argsOk, hsig] at ha
    simp only [kind_li_next]
    exact ha
theorem cw_W {W I : Addr} {pos : Pos} {Q : Value → Shared → Prop} (hW : s.heap.get? W = some (wrapObj I))
    (h : wpAny (model prog w) A.in1 (Builtin.«list_iterator.__next__» ⟨[.ref I], []⟩) (fun fin s' => ∃ r, fin = .done (.ret r) ∧ Q r s') E s) :
    wpAny (model prog w) A (callWith pos (.ref W) [] (backTo pos (starEach [] env)) []) Q E s := by
  refine callWith_of (P := fun h => h.get? W = some (wrapObj I)) rfl (fun h X => keeps_W h X) (evalArgs_nil3 ⟨hW, ?_⟩)
  refine wpAny_call (codeAny_of_tree ?_)
  show wpAny _ A.in1 (callAny (.ref W) _) _ _ _
  unfold callAny
  refine wpAny_bind (wpAny_load hW ?_)
  show wpAny _ _ (checkBoundCall "list_iterator.__next__" ⟨[.ref I], []⟩ >>= fun _ => again (.builtin "list_iterator.__next__" ⟨[.ref I], []⟩)) _ _ _
  refine wpAny_bind (wpAny_of_eq (bound_li I) (wpAny_pure ⟨plainId_quiet slot_listiter_next.plain _, codeAny_builtin entry_listiter_next ?_⟩))
  rw [Around.under_plainId slot_listiter_next.plain]
  refine wpAny_mono h (fun fin s' h' => ?_) fun _ _ y => y
  obtain ⟨r, rfl, hq⟩ := h'
  exact hq
noncomputable def isIt (l : Addr) (i : Nat) : Obj → Prop := fun o => ∃ sl, o = { cls := .type "list_iterator", dict := none, data := .fields #[.ref l, .int i 0], slots := sl }
theorem next_item {I l : Addr} {i : Nat} {vs : List Value} {x : Value} {R : Fin → Shared → Prop} {o : Obj} (ho : s.heap.get? I = some o) (hp : isIt l i o)
    (hl : s.heap.IsList l vs.toArray) (hx : vs[i]? = some x) (hQ : ∀ h', (∃ o, h'.get? I = some o ∧ isIt l (i + 1) o) → Heap.SameBut I s.heap h' → R (.done (.ret x)) { s with heap := h' }) :
    wpAny (model prog w) A (Builtin.«list_iterator.__next__» ⟨[.ref I], []⟩) R E s := by
  obtain ⟨sl, rfl⟩ := hp
  obtain ⟨ol, hol, _, nl, hdl⟩ := hl
  show wpAny _ _ (field (.ref I) 0 >>= _) _ _ s
  refine wpAny_bind (wpAny_field ho rfl (x := .ref l) rfl ?_)
  show wpAny _ _ (if (Value.ref l == Value.none) = true then _ else _) _ _ s
  rw [if_neg (show ¬ ((Value.ref l == Value.none) = true) from Bool.false_ne_true)]
  show wpAny _ _ (field (.ref I) 1 >>= _) _ _ s
  refine wpAny_bind (wpAny_field ho rfl (x := .int i 0) rfl ?_)
  show wpAny _ _ (seqItems? (.ref l) >>= _) _ _ s
  refine wpAny_bind (wpAny_seqItems hol hdl ?_)
  have hx' : vs.toArray[i]? = some x := by simpa using hx
  simp only [Int.toNat_natCast, hx']
  refine wpAny_bind (wpAny_setField ho rfl (by simp) (wpAny_pure (hQ _ ⟨_, Heap.get?_update_self _ ho (Obj.isFreed_of_fields (Obj.data_mapFields rfl _)), sl, ?_⟩ (Heap.SameBut.update ..))))
  simp [Obj.mapFields, rawInt]
theorem next_stop {I l : Addr} {i : Nat} {vs : List Value} {R : Fin → Shared → Prop} {o : Obj} (hh : A.handled = none) (ho : s.heap.get? I = some o) (hp : isIt l i o)
    (hl : s.heap.IsList l vs.toArray) (hx : vs[i]? = none) (hQ : ∀ h' e, Heap.ExtBut I s.heap h' → s.heap.get? e = none → (∃ ob fs, h'.get? e = some ob ∧ ob.cls = .type "StopIteration" ∧ ob.data = .fields fs ∧ fs[1]? = some .none) → E (.ref e) { s with heap := h' }) :
    wpAny (model prog w) A (Builtin.«list_iterator.__next__» ⟨[.ref I], []⟩) R E s := by
  obtain ⟨sl, rfl⟩ := hp
  obtain ⟨ol, hol, _, nl, hdl⟩ := hl
  show wpAny _ _ (field (.ref I) 0 >>= _) _ _ s
  refine wpAny_bind (wpAny_field ho rfl (x := .ref l) rfl ?_)
  show wpAny _ _ (if (Value.ref l == Value.none) = true then _ else _) _ _ s
  rw [if_neg (show ¬ ((Value.ref l == Value.none) = true) from Bool.false_ne_true)]
  show wpAny _ _ (field (.ref I) 1 >>= _) _ _ s
  refine wpAny_bind (wpAny_field ho rfl (x := .int i 0) rfl ?_)
  show wpAny _ _ (seqItems? (.ref l) >>= _) _ _ s
  refine wpAny_bind (wpAny_seqItems hol hdl ?_)
  have hx' : vs.toArray[i]? = none := by simpa using hx
  simp only [Int.toNat_natCast, hx']
  refine wpAny_bind (wpAny_rule (wpAny_bind (wpAny_setField ho rfl (by simp) ?_)))
  show wpAny _ _ (newExc (.type "StopIteration") [] >>= _) _ _ _
  refine wpAny_bind ?_
  simp only [newExc, newTuple]
  refine wpAny_bind (wpAny_newObj_type ?_ (by size_fits))
  refine wpAny_bind (m := firstArgMember _ _) (wpAny_of_eq (a := Value.none) (by first | rfl | (simp only [firstArgMember]; rfl)) ?_)
  refine wpAny_newObj_type ?_ (by size_fits)
  simp only [raiseNew]
  refine wpAny_bind (wpAny_handled ?_)
  rw [hh]
  refine wpAny_bind (wpAny_pure (wpAny_throw ?_))
  refine hQ _ _ (((Heap.SameBut.update ..).extBut.push _).push _) ?_ ⟨_, _, Heap.get?_push_size _ rfl, rfl, rfl, ?_⟩
  · refine fresh_size _ ?_
    rw [Heap.size_push]
    have := (Heap.SameBut.update s.heap I (Obj.mapFields (·.setIfInBounds 0 Value.none))).1
    omega
  · rfl
end
end Mine
end

-- F2
section
open PySem PySem.W PyProof.Rows PySem.Calls
set_option Elab.async false
set_option maxRecDepth 100000
set_option linter.unusedVariables false
set_option linter.unusedSimpArgs false
namespace Mine
noncomputable def isSet (l : List Nat) : Obj → Prop := fun o => ∃ S n, o.IntSetOf S n ∧ n ≤ l.length ∧ ∀ k : Nat, S (k : Int) = decide (k ∈ l)
noncomputable def isD (prog : Program) (w : World) (l : List Nat) : Obj → Prop := fun o => ∃ kvs : List (Int × Value), o.IsDictOf (intKind prog w) kvs ∧ kvs.length ≤ l.length ∧ (∀ k : Nat, (valueAt kvs (k : Int)).isSome = decide (k ∈ l)) ∧
  ∀ (k : Nat) v, valueAt kvs (k : Int) = some v → ∃ (i : Nat) (t : Tok), v = .int (i : Int) t ∧ l[i]? = some k
theorem valueAt_stored {K : Type} [DecidableEq K] (k j : K) (v : Value) : ∀ kvs : List (K × Value), valueAt (stored kvs k v) j = if j = k then some v else valueAt kvs j := by
  intro kvs
  unfold stored
  split
  · rename_i h
    induction kvs with
    | nil => simp at h
    | cons p r ih =>
      unfold valueAt at ih ⊢
      rw [List.map_cons, List.find?_cons, List.find?_cons]
      by_cases hp : p.1 = k
      · by_cases hj : j = k
        · subst hj; simp [hp]
        · have e1 : ¬ p.1 = j := fun q => hj (q.symm.trans hp)
          have e2 : ¬ k = j := fun q => hj q.symm
          simp only [hp, if_true, e2, decide_false, hj, if_false]
          by_cases hr : r.any (fun kv => decide (kv.1 = k)) = true
          · have := ih hr; simpa [hj] using this
          · have : ∀ kv ∈ r, ¬ kv.1 = k := fun kv hkv q => hr (List.any_eq_true.mpr ⟨kv, hkv, by simpa using q⟩)
            have er : r.map (fun kv => if kv.1 = k then (kv.1, v) else kv) = r := by
              conv => rhs; rw [← List.map_id r]
              exact List.map_congr_left fun kv hkv => by simp [this kv hkv]
            rw [er]
      · have hr : r.any (fun kv => decide (kv.1 = k)) = true := by simpa [hp] using h
        have := ih hr
        simp only [hp, if_false]
        by_cases hpj : p.1 = j
        · have hj : ¬ j = k := fun q => hp (hpj.trans q)
          simp [hpj, hj]
        · simp only [hpj, decide_false]
          exact this
  · rename_i h
    unfold valueAt
    rw [List.find?_append]
    by_cases hj : j = k
    · subst hj
      have : (kvs.find? fun kv => decide (kv.1 = j)) = none := by
        rw [List.find?_eq_none]
        intro kv hkv q
        exact h (List.any_eq_true.mpr ⟨kv, hkv, q⟩)
      simp [this]
    · have : ¬ k = j := fun q => hj q.symm
      simp [hj, this]
theorem valueAt_without {K : Type} [DecidableEq K] (k j : K) (kvs : List (K × Value)) : valueAt (without kvs k) j = if j = k then none else valueAt kvs j := by
  unfold without valueAt
  induction kvs with
  | nil => simp
  | cons p r ih =>
    rw [List.filter_cons]
    by_cases hp : p.1 = k
    · simp only [hp, ne_eq, not_true_eq_false, decide_false, if_false, Bool.false_eq_true]
      rw [ih]
      by_cases hj : j = k
      · simp [hj]
      · have : ¬ p.1 = j := fun q => hj (q.symm.trans hp)
        simp [hj, List.find?_cons, this]
    · simp only [hp, ne_eq, not_false_eq_true, decide_true, if_true]
      rw [List.find?_cons, List.find?_cons]
      by_cases hpj : p.1 = j
      · have hj : ¬ j = k := fun q => hp (hpj.trans q)
        simp [hpj, hj]
      · simp only [hpj, decide_false]
        exact ih
section
variable {prog : Program} {w : World} {A : Around} {E : Value → Shared → Prop} {s : Shared} {env : Env}
  {g : Heap} {L : Addr} {m : List (Str × Value)} {own : List (Addr × (Obj → Prop))} {s₀ : Shared} {a : Addr} {i : Nat} {l : List Nat} {k : Nat} {t : Tok}
theorem new_set {Q : Value → Shared → Prop} (h : ∀ a s', s.heap.get? a = none → Kp s s' → (∃ o, s'.heap.get? a = some o ∧ isSet [] o) → Q (.ref a) s') : wpAny (model prog w) A (call (.type "set") []) Q E s := by
  refine call_set_0 fun led => ?_
  exact h _ _ (fresh_size _ (Nat.le_refl _)) (Kp.push s _ s.toks) ⟨_, Heap.get?_push_size _ rfl, _, 0, intSetOf_fresh led, by simp, fun k => by simp⟩
theorem in_set {Q : Value → Shared → Prop} (H : St g L m own s₀ s) (hi : own[i]? = some (a, isSet l)) (hz : l.length ≤ 1000) (h : ∀ s', Kp s s' → Q (.bool (decide (k ∈ l))) s') : wpAny (model prog w) A (compareOp .In (.int (k : Int) t) (.ref a)) Q E s := by
  obtain ⟨o, ho, S, n, hs, hn, hS⟩ := H.at hi
  have hb : n < scanBound := by have : scanBound = 4096 := rfl; omega
  refine wpAny_inSet_of (is_k k t) rfl ((hs.kind prog w).setOf ho hb) ?_
  rw [hS]
  exact h _ (Kp.tok _ _)
theorem add_set {Q : Value → Shared → Prop} (H : St g L m own s₀ s) (hi : own[i]? = some (a, isSet l)) (hz : l.length ≤ 1000) (h : ∀ s', St g L m (own.set i (a, isSet (k :: l))) s₀ s' → Q .none s') : wpAny (model prog w) A (call (.builtin "set.add") [.ref a, .int (k : Int) t]) Q E s := by
  obtain ⟨o, ho, S, n, hs, hn, hS⟩ := H.at hi
  have hb : n + 1 < scanBound := by have : scanBound = 4096 := rfl; omega
  refine call_set_add (is_k k t) rfl ((hs.kind prog w).setOf ho (by omega)) hb fun h' hsb hS' => ?_
  refine h _ (H.set hi hsb ?_)
  obtain ⟨o', ho', hso⟩ := hS'.objOf
  refine ⟨o', ho', _, _, hso.intSetOf, ?_, fun j => ?_⟩
  · simp only [List.length_cons]; split <;> omega
  · rw [hS]
    simp only [List.mem_cons, Bool.decide_or]
    rw [Bool.or_comm]
    congr 1
    simp only [decide_eq_decide]
    omega
theorem gm_set {name : Str} {id : String} {pl : Sem Bool} {Q : Value × List Value → Shared → Prop} (slot : Slot "set" name id) (hty : typeOf (.builtin id) = pure (.type "method_descriptor")) (H : St g L m own s₀ s) (hi : own[i]? = some (a, isSet l)) (h : Q (.builtin id, [.ref a]) s) :
    wpAny (model prog w) A (getMethod (.ref a) name pl) Q E s := by
  obtain ⟨o, ho, S, n, hs, hn, hS⟩ := H.at hi
  have hex := (hs.kind prog w).1
  refine getMethod_builtin (T := "set") ⟨o, ho, hex.1⟩ F.plainAttrs_set slot hty (fun b e => ?_) h
  cases e
  exact ⟨o, ho, hex.2.1⟩
theorem in_d {Q : Value → Shared → Prop} (H : St g L m own s₀ s) (hi : own[i]? = some (a, isD prog w l)) (hd : (a == sysModules) = false) (h : ∀ s', Kp s s' → Q (.bool (decide (k ∈ l))) s') : wpAny (model prog w) A (compareOp .In (.int (k : Int) t) (.ref a)) Q E s := by
  obtain ⟨o, ho, kvs, hk, hn, hm, _⟩ := H.at hi
  have hD : s.heap.DictOf (intKind prog w) a kvs := Heap.dictOf_iff.mpr ⟨o, ho, hk⟩
  refine wpAny_in_of (is_k k t) hd hD.mapOf ?_
  rw [hm]
  exact h _ (Kp.tok _ _)
theorem isD_nil {N : Addr} {h : Heap} (x : h.DictOf (intKind prog w) N []) : ∃ o, h.get? N = some o ∧ isD prog w [] o := by
  obtain ⟨o, ho, hk⟩ := Heap.dictOf_iff.mp x
  exact ⟨o, ho, [], hk, by simp, fun k => by simp [valueAt], fun k v e => by simp [valueAt] at e⟩
theorem set_d {u : Tok} {Q : Unit → Shared → Prop} (H : St g L m own s₀ s) (hi : own[i]? = some (a, isD prog w l)) (hz : l.length ≤ 1000) (hkl : k ∉ l) (h : ∀ s', St g L m (own.set i (a, isD prog w (l ++ [k]))) s₀ s' → Q () s') :
    wpAny (model prog w) A (setItem (.ref a) (.int (k : Int) t) (.int (l.length : Int) u)) Q E s := by
  obtain ⟨o, ho, kvs, hk, hn, hm, hv⟩ := H.at hi
  have hD : s.heap.DictOf (intKind prog w) a kvs := Heap.dictOf_iff.mpr ⟨o, ho, hk⟩
  refine wpAny_setItem_pairs (is_k k t) hD (fun h' hD' sb => ?_) (by have : 1000 ≤ sizeLine := by decide
                                                                     omega)
  refine h _ (H.set hi sb ?_)
  obtain ⟨o', ho', hk'⟩ := Heap.dictOf_iff.mp hD'
  refine ⟨o', ho', _, hk', ?_, fun j => ?_, fun j v e => ?_⟩
  · have := stored_length_le kvs (k : Int) (.int (l.length : Int) u)
    simp only [List.length_append, List.length_singleton]; omega
  · rw [valueAt_stored]
    by_cases hj : j = k
    · subst hj; simp
    · have : ¬ (j : Int) = (k : Int) := by omega
      simp [this, hm, hj]
  · rw [valueAt_stored] at e
    by_cases hj : j = k
    · subst hj
      simp only [if_true] at e
      cases e
      exact ⟨l.length, u, rfl, by simp⟩
    · have : ¬ (j : Int) = (k : Int) := by omega
      simp only [this, if_false] at e
      obtain ⟨i', t', e1, e2⟩ := hv j v e
      refine ⟨i', t', e1, ?_⟩
      rw [List.getElem?_append_left (by obtain ⟨q, _⟩ := List.getElem?_eq_some_iff.mp e2; exact q)]
      exact e2
theorem del_d {Q : Unit → Shared → Prop} (H : St g L m own s₀ s) (hi : own[i]? = some (a, isD prog w (l ++ [k]))) (hz : l.length ≤ 1000) (hkl : k ∉ l) (h : ∀ s', St g L m (own.set i (a, isD prog w l)) s₀ s' → Q () s') :
    wpAny (model prog w) A (delItem (.ref a) (.int (k : Int) t)) Q E s := by
  obtain ⟨o, ho, kvs, hk, hn, hm, hv⟩ := H.at hi
  have hD : s.heap.DictOf (intKind prog w) a kvs := Heap.dictOf_iff.mpr ⟨o, ho, hk⟩
  have hsm : (valueAt kvs (k : Int)).isSome = true := by rw [hm]; simp
  unfold delItem
  try with_reducible refine wpAny_holding ?_
  refine wpAny_bind (wpAny_sequenceKey hD.typeIs (by decide) ?_)
  refine wpAny_bind (wpAny_callSpecial?_slot (name := Str.ofString "__delitem__") hD.typeIs PySem.F.slot_dict_delitem
    (call_meetsIn PySem.F.slot_dict_delitem hD.typeIs PySem.F.entry_dict_delitem (PySem.F.args_dict_delitem_2 _ _) (meets_dict_delitem_pairs (intKind prog w) a (is_k k t)) ⟨kvs, hD, ?_, hsm, fun h' hmm hs => ?_⟩))
  · have : 2000 ≤ sizeLine := by decide
    simp only [List.length_append, List.length_singleton] at hn
    omega
  obtain ⟨o', ho', hd'⟩ := Heap.dictOf_iff.mp hmm
  refine wpAny_pure (h _ (H.set hi hs ⟨o', ho', _, hd', ?_, fun j => ?_, fun j v e => ?_⟩))
  · have h1 : (without kvs (k : Int)).length < kvs.length := by
      unfold without
      rw [List.length_filter_lt_length_iff_exists]
      unfold valueAt at hsm
      rw [Option.isSome_map] at hsm
      obtain ⟨p, hp⟩ := Option.isSome_iff_exists.mp hsm
      have h2 := List.find?_some hp
      exact ⟨p, List.mem_of_find?_eq_some hp, by simpa using h2⟩
    simp only [List.length_append, List.length_singleton] at hn
    omega
  · rw [valueAt_without]
    by_cases hj : j = k
    · subst hj; simp [hkl]
    · have : ¬ (j : Int) = (k : Int) := by omega
      simp [this, hm, hj]
  · rw [valueAt_without] at e
    by_cases hj : j = k
    · subst hj; simp at e
    · have : ¬ (j : Int) = (k : Int) := by omega
      simp only [this, if_false] at e
      obtain ⟨i', t', e1, e2⟩ := hv j v e
      refine ⟨i', t', e1, ?_⟩
      rcases Nat.lt_or_ge i' l.length with q | q
      · rw [List.getElem?_append_left q] at e2; exact e2
      · rw [List.getElem?_append_right q] at e2
        rcases Nat.eq_zero_or_pos (i' - l.length) with z | z
        · rw [z] at e2; simp at e2; exact absurd e2.symm hj
        · rw [List.getElem?_eq_none (by simp; omega)] at e2; cases e2
theorem e_dint {value slice : Expr} {pos : Pos} {Q : Value → Shared → Prop}
    (h : wpAny (model prog w) A (eval value env) (fun o s₁ => wpAny (model prog w) A (eval slice env) (fun i s₂ => ∃ a k t ob l, o = .ref a ∧ i = .int ((k : Nat) : Int) t ∧ s₂.heap.get? a = some ob ∧ isD prog w l ob ∧ k ∈ l ∧ ∀ (i : Nat) t s', Kp s₂ s' → l[i]? = some k → Q (.int (i : Int) t) s') E s₁) E s)
    (hs : ∀ a k t, subscripted slice false (.ref a) (.int k t) = operate [.ref a, .int k t] (getItem (.ref a) (.int k t)) := by intro _ _ _; with_unfolding_all rfl) :
    wpAny (model prog w) A (eval (.Subscript value slice pos) env) Q E s := by
  refine Subscript_ (wpAny_mono h (fun o s₁ h₁ => wpAny_mono h₁ (fun i s₂ h₂ => ?_) fun _ _ y => y) fun _ _ y => y)
  obtain ⟨a, k, t, ob, l, rfl, rfl, ho, ⟨kvs, hk, hn, hm, hv⟩, hkl, hq⟩ := h₂
  have hD : s₂.heap.DictOf (intKind prog w) a kvs := Heap.dictOf_iff.mpr ⟨ob, ho, hk⟩
  have hsm : (valueAt kvs (k : Int)).isSome = true := by rw [hm]; simp [hkl]
  obtain ⟨v, hvv⟩ := Option.isSome_iff_exists.mp hsm
  obtain ⟨i, u, rfl, hi⟩ := hv k v hvv
  exact tail_any hD.typeIs F.slot_dict_getitem.lookup (wpAny_getItem_of (is_k k t) hD.mapOf hvv (hq _ _ _ (Kp.tok _ _) hi)) (hs _ _ _)
theorem pop_own {vs : List Value} {y : Value} {Q : Value → Shared → Prop} (H : St g L m own s₀ s) (hi : own[i]? = some (a, isL (vs ++ [y]))) (hz : vs.length ≤ 1000)
    (h : ∀ s', St g L m (own.set i (a, isL vs)) s₀ s' → Q y s') : wpAny (model prog w) A (call (.builtin "list.pop") [.ref a]) Q E s := by
  obtain ⟨n, hl⟩ := H.lst hi
  have hsz : (vs ++ [y]).toArray.size = vs.length + 1 := by simp
  have hsl : 2000 ≤ sizeLine := by decide
  refine call_meets F.slot_list_pop (s := s) ⟨_, hl, rfl⟩ F.entry_list_pop (F.args_list_pop_1 _) (MeetsSeq.list_pop_last a (vs ++ [y]).toArray n y (by rw [hsz]; simp) (by rw [hsz]; omega)) ⟨hl, ?_⟩
  have sb := Heap.SameBut.update s.heap a (Obj.mapSeq fun xs => xs.eraseIdxIfInBounds ((vs ++ [y]).toArray.size - 1))
  have hS₂ := Heap.get?_update_self (Obj.mapSeq fun xs => xs.eraseIdxIfInBounds ((vs ++ [y]).toArray.size - 1)) hl rfl
  obtain ⟨n', e'⟩ := Obj.data_mapSeq (o := { cls := .type "list", data := .seq (vs ++ [y]).toArray n }) rfl (fun xs => xs.eraseIdxIfInBounds ((vs ++ [y]).toArray.size - 1))
  show Q y _
  have e3 : ({ s with heap := s.heap.update a (Obj.mapSeq fun xs => xs.eraseIdxIfInBounds ((vs ++ [y]).toArray.size - 1)) } : Shared) = { s with heap := s.heap.update a (Obj.mapSeq fun xs => xs.eraseIdxIfInBounds ((vs ++ [y]).toArray.size - 1)), toks := s.toks } := rfl
  rw [e3]
  refine h _ (H.set hi sb ⟨_, hS₂, n', ?_⟩)
  have er : (vs ++ [y]).toArray.eraseIdxIfInBounds ((vs ++ [y]).toArray.size - 1) = vs.toArray := by
    rw [hsz]
    simp [List.eraseIdx_append_of_length_le]
  rw [er] at e'
  rw [← e']
  rfl
theorem e_last {value : Expr} {p p' pos : Pos} {kk : Nat} {Q : Value → Shared → Prop}
    (h : wpAny (model prog w) A (eval value env) (fun o s₁ => ∀ s', Kp s₁ s' → ∃ a vs y, o = .ref a ∧ s'.heap.IsList a (vs ++ [y]).toArray ∧ Q y s') E s) :
    wpAny (model prog w) A (eval (.Subscript value (.UnaryOp .USub (.Constant (.int 1) kk p) p') pos) env) Q E s := by
  refine Subscript_ (wpAny_mono h (fun o s₁ h₁ => ?_) fun _ _ y => y)
  with_reducible refine wpAny_UnaryOp ?_
  with_reducible refine k_int ?_
  intro t2 s2 k2
  refine P.neg_int ?_
  obtain ⟨a, vs, y, rfl, hl, hq⟩ := h₁ _ (k2.trans (Kp.tok _ _))
  refine tail_any hl.typeIs slot_list_getitem.lookup (wpAny_getItem_list_neg hl (by decide) (by simp; omega) (by decide) (x := y) ?_ hq) (by with_unfolding_all rfl)
  have e : ((-1 : Int) + ((vs ++ [y]).toArray.size : Int)).toNat = vs.length := by simp; omega
  rw [e]
  simp
theorem t_list {a : Addr} {vs : List Value} {Q : Bool → Shared → Prop} (hl : s.heap.IsList a vs.toArray) (hz : vs.length ≤ 1000) (h : ∀ s', Kp s s' → Q (!vs.isEmpty) s') : wpAny (model prog w) A (truthy (.ref a)) Q E s := by
  refine wpAny_truthy_list hl (by simp; omega) ?_
  have e : vs.toArray.isEmpty = vs.isEmpty := by cases vs <;> rfl
  rw [e]
  exact h _ (Kp.tok _ _)
theorem e_from {value lo : Expr} {p pos : Pos} {Q : Value → Shared → Prop}
    (h : wpAny (model prog w) A (eval value env) (fun o s₁ => wpAny (model prog w) A (eval lo env) (fun l s₂ => ∃ (a : Addr) (vs : List Value) (i : Nat) (t : Tok), o = .ref a ∧ l = .int ((i : Nat) : Int) t ∧ i ≤ vs.length ∧ s₂.heap.IsList a vs.toArray ∧ vs.length ≤ sizeLine ∧
        ∀ D s', Kp s₂ s' → s'.heap.PlainList D (vs.drop i).toArray → Q (.ref D) s') E s₁) E s)
    (ht : ∀ o r, letTemporaryGo value o r = pure () := by intro _ _; rfl) :
    wpAny (model prog w) A (eval (.Subscript value (.Slice (some lo) none none p) pos) env) Q E s := by
  refine wpAny_Subscript_Slice slot_list_getitem.lookup (wpAny_mono h (fun o s₁ h₁ => wpAny_Slice (wpAny_mono h₁ (fun l s₂ h₂ => wpAny_pure (wpAny_pure ?_)) fun _ _ y => y)) fun _ _ y => y) ht
  obtain ⟨a, vs, i, t, rfl, rfl, hi, hl, hz, hq⟩ := h₂
  have hl' := hl.push { cls := .type "slice", data := .fields #[.int (i : Int) t, .none, .none] }
  refine ⟨hl'.typeIs, wpAny_getItem_list_slice (lo := some (i : Int)) (hi := none) (st := none) hl' (Heap.IsSliceOf.new ..) (.int _ _) .none .none (by simp) ?_ (by simpa using hz)⟩
  refine hq _ _ ((Kp.push s₂ _ s₂.toks).trans (Kp.push _ _ s₂.toks)) ⟨0, ?_⟩
  have e : slicePick vs.toArray (some (i : Int)) none none = (vs.drop i).toArray := by
    rw [slicePick_from vs.toArray i (by simpa using hi)]
  rw [← e]
  exact Heap.get?_push_size _ rfl
theorem x_whileE {test : Expr} {body orelse rest : List Stmt} {pos : Pos} {Q : Flow → Shared → Prop} (I : Nat → Shared → Prop) (n : Nat) (h : I n s)
    (turn : ∀ E' n s, I n s → wpAny (model prog w) A (isTrue test env (eval test env)) (fun b s₂ =>
      if b = true then wpAny (model prog w) A (execs body env) (fun f s₃ => match f with
        | .next | .cont => ∃ m, m < n ∧ I m s₃
        | .brk => wpAny (model prog w) A (execs rest env) Q E s₃
        | .ret v => Q (.ret v) s₃) E' s₂
      else wpAny (model prog w) A (execs orelse env) (fun f s₃ => match f with | .next => wpAny (model prog w) A (execs rest env) Q E s₃ | f => Q f s₃) E' s₂) E' s) :
    wpAny (model prog w) A (execs (.While test body orelse pos :: rest) env) Q E s := by
  refine wpAny_execs_cons (wpAny_While (codeAny_whileLoop I (fun n s hI => wpAny_mono (turn _ n s hI) (fun b s₂ h₂ => ?_) fun _ _ y => y) n h))
  cases b with
  | true => exact h₂
  | false => exact h₂
theorem x_whileEK {test : Expr} {body orelse rest : List Stmt} {pos : Pos} {Q : Flow → Shared → Prop} (I : Nat → Shared → Prop) (n : Nat) (h : I n s)
    (turn : ∀ E' n s (K K' : Flow → Shared → Prop), (∀ s₃, (∃ m, m < n ∧ I m s₃) → K .next s₃ ∧ K .cont s₃) → (∀ s₃, wpAny (model prog w) A (execs rest env) Q E s₃ → K .brk s₃ ∧ K' .next s₃) → (∀ f s₃, Q f s₃ → f ≠ .next → K' f s₃) → (∀ v s₃, Q (.ret v) s₃ → K (.ret v) s₃) → I n s →
      wpAny (model prog w) A (isTrue test env (eval test env)) (fun b s₂ => if b = true then wpAny (model prog w) A (execs body env) K E' s₂ else wpAny (model prog w) A (execs orelse env) K' E' s₂) E' s) :
    wpAny (model prog w) A (execs (.While test body orelse pos :: rest) env) Q E s :=
  x_whileE I n h fun E' n s hI => turn E' n s (fun f s₃ => match f with
        | .next | .cont => ∃ m, m < n ∧ I m s₃
        | .brk => wpAny (model prog w) A (execs rest env) Q E s₃
        | .ret v => Q (.ret v) s₃) (fun f s₃ => match f with | .next => wpAny (model prog w) A (execs rest env) Q E s₃ | f => Q f s₃) (fun _ h => ⟨h, h⟩) (fun _ h => ⟨h, h⟩) (fun f _ h hn => by cases f <;> first | exact absurd rfl hn | exact h) (fun _ _ h => h) hI
theorem srcX_dict (hh : A.handled = none) {d : Addr} {kvs : List (Int × Value)} (hd : s.heap.DictOf (intKind prog w) d kvs) (hs : (d == sysModules) = false) {Q : Value → Shared → Prop}
    (h : ∀ it s₂, SrcX prog w A [d] kvs.length (fun i v => ∃ k x, kvs[i]? = some (k, x) ∧ (intKind prog w).is k v = true) s it s₂ → Q it s₂) : wpAny (model prog w) A (pyIter (.ref d)) Q E s := by
  obtain ⟨ep, hA⟩ := hd.dictAt
  refine wpAny_pyIter_dict hs hA ?_
  have hne : d ≠ s.heap.objs.size := Nat.ne_of_lt hA.lt_size
  have W := Walks.dictKeys (prog := prog) (w := w) (knd := intKind prog w) hh s.heap.objs.size d hne kvs ep
  refine h _ _ ⟨_, _, _, _, rfl, W, ⟨⟨_, Heap.get?_push_size _ rfl, rfl, rfl⟩, hA.at' fun o e => Heap.get?_push_of_some _ e⟩, Kp.push _ _ _, fun b hb => ?_, fun b hb => ?_, fun i h st b hb => ?_⟩
  · rw [List.mem_singleton.mp hb]; exact fresh_size _ (Nat.le_refl _)
  · rcases List.mem_cons.mp hb with e | hb
    · rw [e]; exact .inl (fresh_size _ (Nat.le_refl _))
    · rw [List.mem_singleton.mp hb]; exact .inr (by simp)
  · rcases List.mem_cons.mp hb with e | hb
    · rw [e]; obtain ⟨o, ho, _⟩ := st.1; exact ⟨o, ho⟩
    · rw [List.mem_singleton.mp hb]; obtain ⟨o, _, ho, _⟩ := st.2; exact ⟨o, ho⟩
end
end Mine
end

-- F3
section
open PySem PySem.W PyProof.Rows PySem.Calls
set_option Elab.async false
set_option maxRecDepth 100000
set_option linter.unusedVariables false
set_option linter.unusedSimpArgs false
namespace Mine
theorem isExc_stop : isSubtype (.type "StopIteration") (.type "BaseException") = pure true := by rw [isSubtype_type]; kernel_rfl
theorem notTup_stop : isSubtype (.type ((Manifest.find? "StopIteration").elim "type" fun x => x.metatype)) (.type "tuple") = pure false := isSubtype_of_subB (by decide +kernel)
theorem boot_stop : bootBuiltins (Str.ofString "StopIteration") = some (.type "StopIteration") := by kernel_rfl
noncomputable def isF (o₀ : Obj) : Obj → Prop := fun o => ∃ sl, o = { o₀ with slots := sl }
noncomputable def FrOk (outer : List Env) (own : List (Addr × (Obj → Prop))) : Prop := ∀ env ∈ outer, env.scope.kind ≠ .module ∧ ∃ F o₀, env.frame = some F ∧ (F, isF o₀) ∈ own ∧ ∀ vs, o₀.data ≠ .fields vs
theorem FrOk.fun {outer : List Env} {own : List (Addr × (Obj → Prop))} {base h : Heap} (K : FrOk outer own) (ho : ∀ p ∈ own, ∃ o, h.get? p.1 = some o ∧ p.2 o) (hb : ∀ env ∈ outer, ∀ F, env.frame = some F → base.get? F = none) : h.FunFrames base outer := by
  induction outer with
  | nil => trivial
  | cons env r ih =>
    obtain ⟨hk, F, o₀, hf, hm, hd⟩ := K env (.head _)
    obtain ⟨o, e, sl, rfl⟩ := ho _ hm
    exact ⟨hk, ⟨F, _, hf, hb env (.head _) F hf, e, hd⟩, ih (fun e he => K e (.tail _ he)) fun e he => hb e (.tail _ he)⟩
section
variable {prog : Program} {w : World} {A : Around} {E : Value → Shared → Prop} {s : Shared} {env : Env}
  {g : Heap} {L e : Addr} {m : List (Str × Value)} {own : List (Addr × (Obj → Prop))} {s₀ : Shared} {outer : List Env}
theorem noted_St {X : String} {Q : Unit → Shared → Prop} (H : St g L m own s₀ s) (K : FrOk outer own) (hfr : A.frames = some (env :: outer)) (hf : env.frame = some L) (hk : env.scope.kind ≠ .module)
    (hx : ∃ ob fs, s.heap.get? e = some ob ∧ ob.cls = .type X ∧ ob.data = .fields fs ∧ fs[1]? = some .none) (heL : e ≠ L) (heg : g.get? e = none) (heo : ∀ p ∈ own, p.1 ≠ e)
    (k : ∀ s', St g L m own s₀ s' → (∃ oe vs T oT ts, s'.heap.get? e = some oe ∧ oe.cls = .type X ∧ oe.data = .fields vs ∧ vs[1]? = some (.ref T) ∧ s'.heap.get? T = some oT ∧ oT.data = .fields ts ∧ ts[3]? = some .none ∧ T ≠ e ∧ T ≠ L ∧ g.get? T = none ∧ ∀ p ∈ own, p.1 ≠ T) → Q () s') :
    wpAny (model prog w) A (noteFrame (.ref e) env) (fun _ s₂ => wpAny (model prog w) A (setFlight (.ref e) none) Q E s₂) E s := by
  obtain ⟨ob, fs, he, hcls, hd, h1⟩ := hx
  obtain ⟨oL, esL, epL, hL, hLd, hLk, hLf⟩ := id H.ns
  have hsz : 1 < fs.size := (Array.getElem?_eq_some_iff.mp h1).1
  obtain ⟨Fs, hFs⟩ : ∃ Fs, Fs = (env :: outer).filterMap (·.frame) := ⟨_, rfl⟩
  have hbase : ∀ env' ∈ env :: outer, ∀ F, env'.frame = some F → (hideAll s.heap (e :: Fs)).get? F = none := fun env' he' F hF => hideAll_none _ (by rw [hFs]; exact .tail _ (List.mem_filterMap.mpr ⟨env', he', hF⟩))
  have hl : s.heap.FunFrames (hideAll s.heap (e :: Fs)) (env :: outer) := by
    refine ⟨hk, ⟨L, oL, hf, hbase env (.head _) L hf, hL, fun vs q => by rw [hLd] at q; cases q⟩, ?_⟩
    exact K.fun (fun p hp => (H.owns p hp).1) fun env' he' => hbase env' (.tail _ he')
  unfold noteFrame
  simp only [hf]
  refine wpAny_bind (wpAny_field he hd h1 ?_)
  rw [if_neg (by decide)]
  refine wpAny_newEntry (base := hideAll s.heap (e :: Fs)) hfr hl hf he (fun b o q => of_hideAll _ q) (hideAll_none _ (.head _)) hd hsz fun h' hLeft => ?_
  obtain ⟨st, ff, ⟨oe, vs, T, oT, ts, t1, t2, t3, t4, t5, t6, t7, t8, t9⟩, up⟩ := hLeft
  have frOwn : ∀ F ∈ Fs, F = L ∨ ∃ o₀, (F, isF o₀) ∈ own ∧ ∀ vs, o₀.data ≠ .fields vs := by
    intro F hF
    rw [hFs] at hF
    obtain ⟨env', he', hF'⟩ := List.mem_filterMap.mp hF
    rcases List.mem_cons.mp he' with rfl | he'
    · exact .inl (Option.some.inj (hF'.symm.trans hf))
    · obtain ⟨_, F', o₀, hf', hm, hd'⟩ := K env' he'
      obtain rfl := Option.some.inj (hF'.symm.trans hf')
      exact .inr ⟨o₀, hm, hd'⟩
  have frUp : ∀ F ∈ Fs, ∃ o, h'.get? F = some o ∧ ∀ vs, o.data ≠ .fields vs := by
    intro F hF
    rcases frOwn F hF with rfl | ⟨o₀, hm, hd'⟩
    · obtain ⟨sl, q⟩ := up _ _ hL (fun vs q => by rw [hLd] at q; cases q)
      exact ⟨_, q, fun vs q => by simp only at q; rw [hLd] at q; cases q⟩
    · obtain ⟨⟨o, ho, sl, rfl⟩, _⟩ := H.owns _ hm
      obtain ⟨sl', q⟩ := up _ _ ho hd'
      exact ⟨_, q, hd'⟩
  have hTf : T ∉ Fs := fun q => by
    obtain ⟨o, ho, hn⟩ := frUp T q
    rw [t7] at ho; cases ho; exact hn _ t8
  have hTs : s.heap.get? T = none := by
    cases q : s.heap.get? T with
    | none => rfl
    | some o =>
      have := hideAll_get (e :: Fs) q (fun hm => (List.mem_cons.mp hm).elim t6 hTf)
      rw [t5] at this; cases this
  have keep : ∀ b o, s.heap.get? b = some o → b ≠ e → b ∉ Fs → h'.get? b = some o := fun b o q h1 h2 => st b o (hideAll_get _ q fun hm => (List.mem_cons.mp hm).elim h1 h2)
  have H' : St g L m own s₀ { s with heap := h' } := by
    refine ⟨?_, ?_, fun b o q => keep b o (H.keep b o q) (fun z => by rw [z, heg] at q; cases q) fun hm => ?_, H.above, fun p hp => ⟨?_, (H.owns p hp).2⟩, H.apart⟩
    · obtain ⟨h0, tk0, rfl⟩ := H.near
      exact ⟨h', tk0, rfl⟩
    · obtain ⟨sl, q⟩ := up _ _ hL (fun vs q => by rw [hLd] at q; cases q)
      exact ⟨_, esL, epL, q, hLd, hLk, hLf⟩
    · rcases frOwn b hm with rfl | ⟨o₀, hm', _⟩
      · rw [H.above] at q; cases q
      · have := (H.owns _ hm').2.2
        rw [this] at q; cases q
    · obtain ⟨⟨o, ho, hP⟩, _⟩ := H.owns p hp
      by_cases hpf : p.1 ∈ Fs
      · rcases frOwn _ hpf with hpL | ⟨o₀, hm', hd'⟩
        · exact absurd hpL (H.owns p hp).2.1
        · have hpe : p = (p.1, isF o₀) := by
            obtain ⟨i, hi, ei⟩ := List.getElem_of_mem hp
            obtain ⟨j, hj, ej⟩ := List.getElem_of_mem hm'
            rcases Nat.lt_trichotomy i j with h | h | h
            · have := (List.pairwise_iff_getElem.mp H.apart) i j hi hj h
              rw [ei, ej] at this; exact absurd rfl this
            · subst h; rw [← ei, ej]
            · have := (List.pairwise_iff_getElem.mp H.apart) j i hj hi h
              rw [ei, ej] at this; exact absurd rfl this
          rw [hpe] at hP
          obtain ⟨sl, rfl⟩ := hP
          obtain ⟨sl', q⟩ := up _ _ ho hd'
          refine ⟨_, q, ?_⟩
          rw [hpe]
          exact ⟨sl', rfl⟩
      · exact ⟨o, keep _ o ho (heo p hp) hpf, hP⟩
  refine k _ H' ⟨oe, vs, T, oT, ts, t1, t2.trans hcls, t3, t4, t7, t8, t9, t6, ?_, ?_, fun p hp q => ?_⟩
  · intro q; rw [q, hL] at hTs; cases hTs
  · cases q : g.get? T with
    | none => rfl
    | some o => have := H.keep _ _ q; rw [hTs] at this; cases this
  · obtain ⟨⟨o, ho, _⟩, _⟩ := H.owns p hp
    rw [q, hTs] at ho; cases ho
theorem caught_stop {b₀ : Stmt} {suite : List Stmt} {pos np : Pos} {rest : List ExceptHandler} {Q : Flow → Shared → Prop} (B : Bs w g) (hnm : nsIn (Mine.hd.heap_39 w.params) mainGlobals (Str.ofString "StopIteration") = some none)
    (H : St g L m own s₀ s) (K : FrOk outer own) (hfr : A.frames = some (env :: outer)) (hf : env.frame = some L) (hk : env.scope.kind = .function)
    (hx : ∃ ob fs, s.heap.get? e = some ob ∧ ob.cls = .type "StopIteration" ∧ ob.data = .fields fs ∧ fs[1]? = some .none) (heL : e ≠ L) (heg : g.get? e = none) (heo : ∀ p ∈ own, p.1 ≠ e)
    (k : ∀ E' s', St g L m own s₀ s' → wpAny (model prog w) (A.mark (some (.ref e))) (execs (b₀ :: suite) env) Q E' s')
    (hg : env.globals = mainGlobals := by kernel_rfl) (hb : env.builtins = builtinsNs := by kernel_rfl) (hkx : env.kindOf (Str.ofString "StopIteration") = some .globalImplicit := by kernel_rfl) :
    wpAny (model prog w) A (noteFrame (.ref e) env) (fun _ s₂ => wpAny (model prog w) A (setFlight (.ref e) none) (fun _ s₃ =>
      wpAny (model prog w) A (handleBy (.ref e) env (.ExceptHandler (some (.Name (Str.ofString "StopIteration") np)) none (b₀ :: suite) pos :: rest)) Q E s₃) E s₂) E s := by
  refine noted_St H K hfr hf (by rw [hk]; decide) hx heL heg heo fun s' H' ht => ?_
  obtain ⟨oe, vs, T, oT, ts, t1, t2, t3, t4, t5, t6, t7, t8, t9, t10, t11⟩ := ht
  have hsz : 3 < ts.size := (Array.getElem?_eq_some_iff.mp t7).1
  refine wpAny_handleBy_builtin (X := "StopIteration") (T := "StopIteration") (b := true) isExc_stop notTup_stop isSubtype_stop ?_
  refine n_built (H'.bs B) hnm boot_stop ⟨rfl, ⟨oe, t1, t2⟩, ?_⟩ (by decide) hg hb hk hkx (by kernel_rfl)
  rw [if_pos rfl]
  refine wpAny_setFlight_none t1 t3 t4 t5 t6 hsz ?_
  have e3 : ({ s' with heap := s'.heap.update T (Obj.mapFields (·.setIfInBounds 3 .none)) } : Shared) = { s' with heap := s'.heap.update T (Obj.mapFields (·.setIfInBounds 3 .none)), toks := s'.toks } := rfl
  rw [e3]
  exact k _ _ (H'.upd (Heap.SameBut.update s'.heap T (Obj.mapFields (·.setIfInBounds 3 Value.none))) t9 t10 t11)
end
end Mine
end

-- F4
section
open PySem PySem.W PyProof.Rows PySem.Calls
set_option Elab.async false
set_option linter.unusedVariables false
set_option linter.unusedSimpArgs false
namespace Mine
inductive Pl (G : Nat → List Nat) : Nat → Nat → Prop
  | one {a b : Nat} : b ∈ G a → Pl G a b
  | more {a b c : Nat} : Pl G a b → c ∈ G b → Pl G a c
noncomputable def Topo (G : Nat → List Nat) (fin : List Nat) : Prop := ∀ a k b, fin = a ++ k :: b → ∀ j ∈ G k, j ∈ a
theorem Topo.nil (G : Nat → List Nat) : Topo G [] := fun a k b e => by simp at e
theorem Topo.snoc {G : Nat → List Nat} {fin : List Nat} {k : Nat} (h : Topo G fin) (hk : ∀ j ∈ G k, j ∈ fin) : Topo G (fin ++ [k]) := by
  intro a x b e j hj
  rcases List.eq_nil_or_concat b with rfl | ⟨b', y, rfl⟩
  · have := List.append_inj' e rfl
    obtain ⟨e1, e2⟩ := this
    cases e2
    exact e1 ▸ hk j hj
  · have e' : fin ++ [k] = (a ++ x :: b') ++ [y] := by simpa using e
    have := List.append_inj' e' rfl
    exact h a x b' this.1 j hj
noncomputable def Used (G : Nat → List Nat) (fin : List Nat) : List Nat → List (Nat × Nat) → Prop
  | _, [] => True
  | above, (k, pos) :: r => (∀ j ∈ (G k).take pos, j ∈ fin ∨ j ∈ above) ∧ Used G fin (k :: above) r
theorem Used.mono {G : Nat → List Nat} {fin fin' : List Nat} : ∀ {above above' : List Nat} {r : List (Nat × Nat)}, Used G fin above r → (∀ j, j ∈ fin ∨ j ∈ above → j ∈ fin' ∨ j ∈ above') → Used G fin' above' r
  | _, _, [], _, _ => trivial
  | above, above', (k, pos) :: r, h, hm => ⟨fun j hj => hm j (h.1 j hj), h.2.mono fun j hj => by
      rcases hj with hj | hj
      · rcases hm j (.inl hj) with q | q
        · exact .inl q
        · exact .inr (.tail _ q)
      · rcases List.mem_cons.mp hj with rfl | hj
        · exact .inr (.head _)
        · rcases hm j (.inr hj) with q | q
          · exact .inl q
          · exact .inr (.tail _ q)⟩
structure Dv (V : List Nat) (G : Nat → List Nat) (q : List (Nat × Nat)) (seen fin cs : List Nat) : Prop where
  pw : (q.map (·.1)).Pairwise fun a b => Pl G b a
  nd : (q.map (·.1)).Nodup
  inV : ∀ x ∈ q, x.1 ∈ V ∧ x.2 ≤ (G x.1).length
  sn : ∀ k, k ∈ seen ↔ k ∈ q.map (·.1) ∨ k ∈ fin
  sV : ∀ k ∈ seen, k ∈ V
  snd : seen.Nodup
  ap : ∀ k ∈ fin, k ∉ q.map (·.1)
  tp : Topo G fin
  us : Used G fin cs q
  cV : ∀ c ∈ cs, c ∈ V
  ce : ∀ c ∈ cs, ∀ x ∈ q.head?, c ∈ G x.1
section
variable {V : List Nat} {G : Nat → List Nat} {q : List (Nat × Nat)} {seen fin cs : List Nat} {k pos c : Nat}
theorem Dv.start : Dv V G [] [] [] [] := ⟨.nil, .nil, (by simp), (by simp), (by simp), .nil, (by simp), Topo.nil G, trivial, (by simp), (by simp)⟩
theorem Dv.root (h : Dv V G [] seen fin []) (hc : c ∈ V) : Dv V G [] seen fin [c] := ⟨h.pw, h.nd, h.inV, h.sn, h.sV, h.snd, h.ap, h.tp, trivial, by simpa using hc, by simp⟩
theorem Dv.ring (h : Dv V G q seen fin [c]) (hc : c ∈ q.map (·.1)) : Pl G c c := by
  cases q with
  | nil => simp at hc
  | cons x r =>
    have e : c ∈ G x.1 := h.ce c (.head _) x (by simp)
    rcases List.mem_cons.mp hc with rfl | hc
    · exact .one e
    · have := (List.pairwise_cons.mp h.pw).1 c hc
      exact .more this e
theorem Dv.skip (h : Dv V G q seen fin [c]) (hc : c ∈ seen) (hn : c ∉ q.map (·.1)) : Dv V G q seen fin [] := by
  have hf : c ∈ fin := ((h.sn c).mp hc).resolve_left hn
  refine ⟨h.pw, h.nd, h.inV, h.sn, h.sV, h.snd, h.ap, h.tp, h.us.mono fun j hj => ?_, by simp, by simp⟩
  rcases hj with hj | hj
  · exact .inl hj
  · rw [List.mem_singleton.mp hj]; exact .inl hf
theorem Dv.push (h : Dv V G q seen fin [c]) (hc : c ∉ seen) : Dv V G ((c, 0) :: q) (c :: seen) fin [] := by
  have hq : c ∉ q.map (·.1) := fun z => hc ((h.sn c).mpr (.inl z))
  have hf : c ∉ fin := fun z => hc ((h.sn c).mpr (.inr z))
  refine ⟨?_, ?_, ?_, ?_, ?_, ?_, ?_, h.tp, ⟨by simp, h.us⟩, by simp, by simp⟩
  · rw [List.map_cons]
    refine List.pairwise_cons.mpr ⟨fun b hb => ?_, h.pw⟩
    cases q with
    | nil => simp at hb
    | cons x r =>
      have e : c ∈ G x.1 := h.ce c (.head _) x (by simp)
      rcases List.mem_cons.mp hb with rfl | hb
      · exact .one e
      · exact .more ((List.pairwise_cons.mp h.pw).1 b hb) e
  · exact List.nodup_cons.mpr ⟨hq, h.nd⟩
  · intro x hx
    rcases List.mem_cons.mp hx with rfl | hx
    · exact ⟨h.cV c (.head _), by simp⟩
    · exact h.inV x hx
  · intro k
    simp only [List.mem_cons, List.map_cons, h.sn, or_assoc]
  · intro k hk
    rcases List.mem_cons.mp hk with rfl | hk
    · exact h.cV k (.head _)
    · exact h.sV k hk
  · exact List.nodup_cons.mpr ⟨hc, h.snd⟩
  · intro k hk
    rw [List.map_cons, List.mem_cons]
    rintro (rfl | z)
    · exact hf hk
    · exact h.ap k hk z
theorem Dv.adv (h : Dv V G ((k, pos) :: q) seen fin []) (hV : ∀ k ∈ V, ∀ j ∈ G k, j ∈ V) (hc : (G k)[pos]? = some c) : Dv V G ((k, pos + 1) :: q) seen fin [c] := by
  have hkV := (h.inV _ (.head _)).1
  have hcG : c ∈ G k := List.mem_of_getElem? hc
  refine ⟨h.pw, h.nd, ?_, h.sn, h.sV, h.snd, h.ap, h.tp, ⟨fun j hj => ?_, h.us.2.mono fun j hj => ?_⟩, ?_, ?_⟩
  · intro x hx
    rcases List.mem_cons.mp hx with rfl | hx
    · obtain ⟨l, _⟩ := List.getElem?_eq_some_iff.mp hc
      exact ⟨hkV, l⟩
    · exact h.inV x (.tail _ hx)
  · rw [List.take_add_one, hc] at hj
    rcases List.mem_append.mp hj with hj | hj
    · exact (h.us.1 j hj).elim .inl (fun z => by simp at z)
    · exact .inr hj
  · rcases hj with hj | hj
    · exact .inl hj
    · rcases List.mem_cons.mp hj with rfl | hj
      · exact .inr (.head _)
      · simp at hj
  · intro x hx
    rw [List.mem_singleton.mp hx]; exact hV k hkV c hcG
  · intro x hx y hy
    rw [List.mem_singleton.mp hx]
    simp at hy; subst hy; exact hcG
theorem Dv.pop (h : Dv V G ((k, pos) :: q) seen fin []) (hp : (G k)[pos]? = none) : Dv V G q seen (fin ++ [k]) [] := by
  have hk : k ∉ q.map (·.1) := (List.nodup_cons.mp h.nd).1
  have hall : ∀ j ∈ G k, j ∈ fin := by
    intro j hj
    have e : (G k).take pos = G k := List.take_of_length_le (by rw [List.getElem?_eq_none_iff] at hp; exact hp)
    exact (h.us.1 j (by rw [e]; exact hj)).elim id (fun z => by simp at z)
  refine ⟨(List.pairwise_cons.mp h.pw).2, (List.nodup_cons.mp h.nd).2, fun x hx => h.inV x (.tail _ hx), ?_, h.sV, h.snd, ?_, h.tp.snoc hall, h.us.2.mono fun j hj => ?_, by simp, by simp⟩
  · intro x
    rw [h.sn]
    simp only [List.map_cons, List.mem_cons, List.mem_append, List.mem_singleton, List.not_mem_nil, or_false]
    grind
  · intro x hx
    rcases List.mem_append.mp hx with hx | hx
    · exact fun z => h.ap x hx (.tail _ z)
    · rw [List.mem_singleton.mp hx]; exact hk
  · rcases hj with hj | hj
    · exact .inl (List.mem_append_left _ hj)
    · rcases List.mem_cons.mp hj with rfl | hj
      · exact .inl (by simp)
      · simp at hj
noncomputable def left (V : List Nat) (G : Nat → List Nat) (seen : List Nat) : Nat := (V.map fun v => if v ∈ seen then 0 else (G v).length).sum
noncomputable def lefts (G : Nat → List Nat) (q : List (Nat × Nat)) : Nat := (q.map fun x => (G x.1).length - x.2).sum
theorem left_cons {V : List Nat} {G : Nat → List Nat} {seen : List Nat} {c : Nat} (hn : V.Nodup) (hc : c ∈ V) (hs : c ∉ seen) : left V G seen = left V G (c :: seen) + (G c).length := by
  unfold left
  induction V with
  | nil => simp at hc
  | cons v r ih =>
    rw [List.nodup_cons] at hn
    simp only [List.map_cons, List.sum_cons]
    by_cases hv : v = c
    · subst hv
      have : (r.map fun u => if u ∈ v :: seen then 0 else (G u).length) = r.map fun u => if u ∈ seen then 0 else (G u).length := by
        refine List.map_congr_left fun u hu => ?_
        have : u ≠ v := fun e => hn.1 (e ▸ hu)
        simp [this]
      rw [this]
      simp [hs]; omega
    · have hcr : c ∈ r := (List.mem_cons.mp hc).resolve_left (fun e => hv e.symm)
      have := ih hn.2 hcr
      have e : (if v ∈ c :: seen then 0 else (G v).length) = if v ∈ seen then 0 else (G v).length := by simp [hv]
      rw [e]
      omega
end
end Mine
end

-- F5
section
open PySem PySem.W PyProof.Rows PySem.Calls
set_option Elab.async false
set_option maxRecDepth 100000
set_option linter.unusedVariables false
set_option linter.unusedSimpArgs false
namespace Mine
section
variable {prog : Program} {w : World} {A : Around} {s : Shared} {R : Result → Shared → Prop} {f : Addr} {oc : Value} {od : Option Addr} {osl : Array (Option Value)} {name qual : Str} {params : Arguments} {body : List Stmt} {scope : Scope}
  {dV kV doc pm cdv ct : Value} {an : Option Addr}
theorem enterF {args : Args} {binds : List (Str × Value)} (B : Bs w s.heap) (hroom : A.depth < recursionLimit)
    (ho : List.lookup f (Mine.hd.heap_39 w.params) = some ⟨oc, od, .func (fnOf name qual params body scope dV kV doc pm an cdv ct), osl⟩) (hcd : codeIn (Mine.hd.heap_39 w.params) cdv qual = true)
    (hbind : BindsTo s (fnOf name qual params body scope dV kV doc pm an cdv ct) args binds) (hloc : ∀ y ∈ binds, scope.names.lookup y.1 = some .local)
    (h : ∀ s' A', Deep A A' → A'.frames = A.frames.map (envOf qual scope s.heap.objs.size f cdv :: ·) → St s.heap s.heap.objs.size binds.reverse [] s s' →
      wpAny (model prog w) A' (execs body (envOf qual scope s.heap.objs.size f cdv)) (fun fl s' => R (.ok (.ret (match fl with | .ret v => v | _ => .none))) s') (fun _ _ => False) s')
    (hco : scope.isCoroutine = false := by rfl) (hgen : scope.isGenerator = false := by rfl) (hk : scope.kind = .function := by rfl)
    (hcell : ∀ x ∈ scope.names, x.2 ≠ .cell := by decide) : codeAny (model prog w) A (.call (.ref f) args) R s :=
  enter B hroom ho hcd hbind hloc (fun s' H => wpAny_mono (h s' _ ⟨rfl, rfl, rfl⟩ rfl H) (fun _ _ x => x) fun _ _ x => x.elim) hco hgen hk hcell
end
section
variable {prog : Program} {w : World} {A : Around} {E : Value → Shared → Prop} {s : Shared} {env : Env}
theorem keeps_ty {M : Model} {T : String} (h : Heap) (_ : True) : ∃ k, (k = Keeper.frame ∨ k = Keeper.machine ∨ k = Keeper.boundFrame) ∧ Looks M h (keeperOf (.type T)) k := ⟨.machine, .inr (.inl rfl), .now⟩
theorem c_ty0 {x : Str} {p pos : Pos} {T : String} {Q : Value → Shared → Prop} (B : Bs w s.heap) (hx : nsIn (Mine.hd.heap_39 w.params) mainGlobals x = some none) (hv : bootBuiltins x = some (.type T))
    (h : wpAny (model prog w) A (call (.type T) []) Q E s)
    (hn : x ≠ "__name__" := by decide) (hg : env.globals = mainGlobals := by kernel_rfl) (hb : env.builtins = builtinsNs := by kernel_rfl) (hk : env.scope.kind = .function := by kernel_rfl) (hkx : env.kindOf x = some .globalImplicit := by kernel_rfl) (hd : (x == ("__debug__" : Str)) = false := by kernel_rfl) :
    wpAny (model prog w) A (eval (.Call (.Name x p) [] [] pos) env) Q E s :=
  wpAny_Call_NameR (n_built B hx hv (callWith_of (P := fun _ => True) rfl (fun h _ => keeps_ty h trivial) (evalArgs_nil3 ⟨trivial, h⟩)) hn hg hb hk hkx hd)
theorem c_sub {v i : Expr} {p pos : Pos} {args : List Expr} {Q : Value → Shared → Prop}
    (h : wpAny (model prog w) A (eval (.Subscript v i p) env) (fun f s₁ => wpAny (model prog w) A (callWith pos f [] (backTo pos (starEach args env)) []) Q E s₁) E s) :
    wpAny (model prog w) A (eval (.Call (.Subscript v i p) args [] pos) env) Q E s := by
  show wpAny _ A (do callWith pos (← eval (.Subscript v i p) env) [] (backTo pos (starEach args env)) (backToKw pos (keywordEach [] env))) Q E s
  exact wpAny_bind h
theorem it_list {a : Addr} {vs : List Value} {Q : Value → Shared → Prop} (hl : s.heap.IsList a vs.toArray) (h : ∀ I s', s.heap.get? I = none → Kp s s' → (∃ o, s'.heap.get? I = some o ∧ isIt a 0 o) → Q (.ref I) s') : wpAny (model prog w) A (call (.builtin "iter") [.ref a]) Q E s := by
  refine call_function_entry (by decide +kernel) (by decide +kernel) kdk_entry_iter (kdk_args_iter _) ?_
  unfold Builtin.«iter»
  refine wpAny_bind (m := someArgs "iter" 1 2 _) (wpAny_of_eq (a := [Value.ref a]) (by first | rfl | kernel_rfl!) ?_)
  show wpAny _ _ (pyIter (.ref a) >>= _) _ _ _
  refine wpAny_bind (wpAny_pyIter_list hl ?_)
  exact wpAny_pure ⟨_, rfl, h _ _ (fresh_size _ (Nat.le_refl _)) (Kp.push s _ s.toks) ⟨_, Heap.get?_push_size _ rfl, _, rfl⟩⟩
theorem x_exprA {e : Expr} {pos : Pos} {rest : List Stmt} {Q : Flow → Shared → Prop}
    (h : wpAny (model prog w) A (eval e env) (fun v s' => wpAny (model prog w) A (execs rest env) Q E s') E s)
    (hi : interactive env = false := by rfl) (hs : swapsWith e none pos.line env = pure false := by rfl) : wpAny (model prog w) A (execs (.Expr e pos :: rest) env) Q E s :=
  wpAny_execs_cons (wpAny_Expr_any h hi hs)
theorem x_ifC {test : Expr} {body orelse rest : List Stmt} {pos : Pos} {Q : Flow → Shared → Prop} (C : Shared → Prop)
    (h : wpAny (model prog w) A (isTrue test env (eval test env)) (fun b s₂ =>
      if b = true then wpAny (model prog w) A (execs body env) (fun f s' => match f with | .next => C s' | f => Q f s') E s₂
      else wpAny (model prog w) A (execs orelse env) (fun f s' => match f with | .next => C s' | f => Q f s') E s₂) E s)
    (k : ∀ s', C s' → wpAny (model prog w) A (execs rest env) Q E s') :
    wpAny (model prog w) A (execs (.If test body orelse pos :: rest) env) Q E s := by
  refine x_if (wpAny_mono h (fun b s₂ h₂ => ?_) fun _ _ y => y)
  split
  · rename_i hb
    rw [if_pos hb] at h₂
    refine wpAny_mono h₂ (fun f s' hf => ?_) fun _ _ y => y
    cases f <;> first | exact k _ hf | exact hf
  · rename_i hb
    rw [if_neg hb] at h₂
    refine wpAny_mono h₂ (fun f s' hf => ?_) fun _ _ y => y
    cases f <;> first | exact k _ hf | exact hf
theorem x_ifCK {test : Expr} {body orelse rest : List Stmt} {pos : Pos} {Q : Flow → Shared → Prop} (C : Shared → Prop)
    (h : ∀ K : Flow → Shared → Prop, (∀ s', C s' → K .next s') → (∀ f s', Q f s' → f ≠ .next → K f s') → wpAny (model prog w) A (isTrue test env (eval test env)) (fun b s₂ =>
      if b = true then wpAny (model prog w) A (execs body env) K E s₂ else wpAny (model prog w) A (execs orelse env) K E s₂) E s)
    (k : ∀ s', C s' → wpAny (model prog w) A (execs rest env) Q E s') :
    wpAny (model prog w) A (execs (.If test body orelse pos :: rest) env) Q E s :=
  x_ifC C (h (fun f s' => match f with | .next => C s' | f => Q f s') (fun _ h => h) fun f _ h hn => by cases f <;> first | exact absurd rfl hn | exact h) k
end
set_option genInjectivity false in
structure Dfr where
  k : Nat
  I : Addr
  W : Addr
  pos : Nat
noncomputable def qs (fr : List Dfr) : List (Nat × Nat) := fr.map fun f => (f.k, f.pos)
noncomputable def stk (fr : List Dfr) : List Nat := fr.reverse.map (·.k)
theorem mem_stk {fr : List Dfr} {k : Nat} : k ∈ stk fr ↔ k ∈ (qs fr).map (·.1) := by unfold stk qs; simp
theorem stk_cons (f : Dfr) (fr : List Dfr) : stk (f :: fr) = stk fr ++ [f.k] := by unfold stk; simp
theorem stk_len (fr : List Dfr) : (stk fr).length = fr.length := by unfold stk; simp
noncomputable def ownD (prog : Program) (w : World) (σ : Sg) (aS aI aE aD : Addr) (vs : List Value) (fr : List Dfr) (seen : List Nat) (fro : List (Addr × (Obj → Prop))) : List (Addr × (Obj → Prop)) :=
  (aD, isD prog w (stk fr)) :: (aE, isSet seen) :: (aI, isL (fr.reverse.map fun f => Value.ref f.W)) :: (aS, isL vs) :: (fr.map (fun f => (f.I, isIt (σ.S f.k) f.pos)) ++ fro)
structure Nm (σ : Sg) (aS aI aE aD : Addr) (m : List (Str × Value)) : Prop where
  n2i : m.lookup (Str.ofString "n2i") = some (.ref σ.N)
  stack : m.lookup (Str.ofString "stack") = some (.ref aS)
  itstack : m.lookup (Str.ofString "itstack") = some (.ref aI)
  seen : m.lookup (Str.ofString "seen") = some (.ref aE)
  n2s : m.lookup (Str.ofString "node2stacki") = some (.ref aD)
theorem Nm.node {σ : Sg} {aS aI aE aD : Addr} {m : List (Str × Value)} (h : Nm σ aS aI aE aD m) (v : Value) : Nm σ aS aI aE aD ((Str.ofString "node", v) :: m) := ⟨h.n2i, h.stack, h.itstack, h.seen, h.n2s⟩
inductive DS (prog : Program) (w : World) (g0 : Heap) (L : Addr) (σ : Sg) (aS aI aE aD : Addr) (fro : List (Addr × (Obj → Prop))) (s₀ : Shared) (fr : List Dfr) (seen fin cs : List Nat) (m : List (Str × Value)) (s : Shared) (g : Heap) (vs : List Value) : Prop
  | mk (up : ∀ b o, g0.get? b = some o → g.get? b = some o) (H : St g L m (ownD prog w σ aS aI aE aD vs fr seen fro) s₀ s) (iv : IntsAre vs (nums (stk fr))) (wr : ∀ f ∈ fr, g.get? f.W = some (wrapObj f.I)) (nm : Nm σ aS aI aE aD m) (dv : Dv σ.ord σ.sc (qs fr) seen fin cs)
end Mine
end

-- F6
section
open PySem PySem.W PyProof.Rows PySem.Calls
set_option Elab.async false
set_option maxRecDepth 100000
set_option linter.unusedVariables false
set_option linter.unusedSimpArgs false
namespace Mine
theorem is_int {prog : Program} {w : World} {k : Int} {v : Value} (h : (intKind prog w).is k v = true) : ∃ t, v = .int k t := by
  cases v <;> simp [intKind, Value.isInt] at h
  subst h; exact ⟨_, rfl⟩
theorem ints_unsnoc {ns : List Int} {vs : List Value} {n : Int} (h : IntsAre vs (ns ++ [n])) : ∃ vs0 t, vs = vs0 ++ [.int n t] ∧ IntsAre vs0 ns := by
  induction ns generalizing vs with
  | nil => cases h with | cons n t r => cases r; exact ⟨[], t, rfl, .nil⟩
  | cons m ns ih => cases h with | cons m u r => obtain ⟨vs0, t, e, h⟩ := ih r; exact ⟨.int m u :: vs0, t, congrArg _ e, .cons m u h⟩
theorem boot_set : bootBuiltins (Str.ofString "set") = some (.type "set") := by kernel_rfl
theorem boot_iter' : bootBuiltins (Str.ofString "iter") = some (.builtin "iter") := by kernel_rfl
theorem St.take {g g' : Heap} {L : Addr} {m : List (Str × Value)} {own fro : List (Addr × (Obj → Prop))} {s₀ s : Shared} (H : St g L m own s₀ s) (kg : ∀ b o, g'.get? b = some o → g.get? b = some o) (hf : ∀ p ∈ fro, (∃ o, g.get? p.1 = some o ∧ p.2 o) ∧ g'.get? p.1 = none) (hfa : fro.Pairwise fun p q => p.1 ≠ q.1) :
    St g' L m (own ++ fro) s₀ s := by
  have H' := H.base kg
  refine ⟨H'.near, H'.ns, H'.keep, H'.above, fun p hp => ?_, List.pairwise_append.mpr ⟨H'.apart, hfa, fun p hp q hq e => ?_⟩⟩
  · rcases List.mem_append.mp hp with hp | hp
    · exact H'.owns p hp
    · obtain ⟨⟨o, ho, hP⟩, hn⟩ := hf p hp
      exact ⟨⟨o, H.keep _ _ ho, hP⟩, (fun e => by have := H.above; rw [← e, ho] at this; cases this), hn⟩
  · obtain ⟨⟨o, ho, _⟩, _⟩ := hf q hq
    have := (H.owns p hp).2.2
    rw [e, ho] at this; cases this
section
variable {prog : Program} {w : World} {A : Around} {E : Value → Shared → Prop} {s : Shared} {σ : Sg} {outer : List Env} {g0 : Heap} {fro : List (Addr × (Obj → Prop))}
noncomputable def CycR (prog : Program) (w : World) (g0 : Heap) (σ : Sg) (fro : List (Addr × (Obj → Prop))) (s : Shared) (v : Value) (s' : Shared) : Prop :=
  (∃ h tk, s' = { s with heap := h, toks := tk }) ∧ (∀ b o, g0.get? b = some o → s'.heap.get? b = some o) ∧ (∀ p ∈ fro, ∃ o, s'.heap.get? p.1 = some o ∧ p.2 o) ∧
    ((v = .none ∧ ∃ fin, Topo σ.sc fin ∧ ∀ k ∈ σ.ord, k ∈ fin) ∨ ∃ D vs, v = .ref D ∧ s'.heap.PlainList D vs.toArray ∧ vs ≠ [] ∧ vs.length ≤ 1000 ∧ (∃ k, k ∈ σ.ord ∧ Pl σ.sc k k) ∧ g0.get? D = none ∧ ∀ p ∈ fro, p.1 ≠ D)
set_option maxHeartbeats 2000000 in
theorem cycle_spec (Rm : Room A 3 30) (hfr : A.frames = some outer) (B : Bs w g0) (x : Sor prog w g0 σ) (kg : ∀ b o, g0.get? b = some o → s.heap.get? b = some o) (K : FrOk outer fro)
    (hfo : ∀ p ∈ fro, (∃ o, s.heap.get? p.1 = some o ∧ p.2 o) ∧ g0.get? p.1 = none) (hfa : fro.Pairwise fun p q => p.1 ≠ q.1)
    (hscm : ∀ k ∈ σ.ord, ∀ j ∈ σ.sc k, j ∈ σ.ord) (hscl : ∀ k ∈ σ.ord, (σ.sc k).length ≤ 100) :
    wpAny (model prog w) A (call (.ref 178) [.ref σ.X]) (CycR prog w g0 σ fro s) E s := by
  have hz : (fun (_ : PySem.W.OpenLaw × (Params → Frag)) => True) (PySem.Challenge.rw_of0070_01, Mine.hd.heap_39) := by (k_fill; trivial)
  have B0 := B.keeps kg
  refine wpAny_call (enterF B0 Rm.low (by k_is) (by k_is) (BindsTo.of_eq rfl) (locs rfl) ?_)
  intro s1 A1 DA hfr1 H
  rw [hfr] at hfr1
  replace Rm := Rm.deep DA (d' := 2) (u' := 27) (by decide) (by decide)
  generalize s.heap.objs.size = L at H hfr1 ⊢
  replace H : St s.heap L [(Str.ofString "self", .ref σ.X)] [] s s1 := H
  replace H : St g0 L [(Str.ofString "self", .ref σ.X)] fro s s1 := H.take kg hfo hfa
  -- n2i = self._node2info
  with_reducible refine x_assign ?_ (by kernel_rfl)
  with_reducible refine e_attr ?_
  refine n_loc H.ns rfl ?_
  refine at_n2i (H.bs B) (x.keeps H.keep) ?_
  intro s2 k2
  replace H := H.keeps k2
  refine s_loc H ?_
  intro s3 H
  -- stack = []
  with_reducible refine x_assign ?_ (by kernel_rfl)
  with_reducible refine e_list ?_
  with_reducible refine i_nil ?_
  refine ⟨by decide, ?_⟩
  intro aS s4 hS k4 lS
  replace H := H.more k4 hS (P := isL []) (by obtain ⟨n, e⟩ := lS; exact ⟨_, e, n, rfl⟩)
  refine s_loc H ?_
  intro s5 H
  -- itstack = []
  with_reducible refine x_assign ?_ (by kernel_rfl)
  with_reducible refine e_list ?_
  with_reducible refine i_nil ?_
  refine ⟨by decide, ?_⟩
  intro aI s6 hI k6 lI
  replace H := H.more k6 hI (P := isL []) (by obtain ⟨n, e⟩ := lI; exact ⟨_, e, n, rfl⟩)
  refine s_loc H ?_
  intro s7 H
  -- seen = set()
  with_reducible refine x_assign ?_ (by kernel_rfl)
  refine c_ty0 (H.bs B) (by k_is) boot_set ?_
  refine new_set ?_
  intro aE s8 hE k8 lE
  replace H := H.more k8 hE lE
  refine s_loc H ?_
  intro s9 H
  -- node2stacki = {}
  with_reducible refine x_assign ?_ (by kernel_rfl)
  have low : sysModules < s9.heap.objs.size := modules_low (H.bs B).lim
  refine e_dict ?_
  intro aD s10 hD hDl k10 lD
  have hDm : (aD == sysModules) = false := by
    have : aD ≠ sysModules := Nat.ne_of_gt (Nat.lt_of_lt_of_le low hDl)
    simpa using this
  replace H := H.more k10 hD (isD_nil lD)
  refine s_loc H ?_
  intro s11 H
  replace H : St g0 L [(Str.ofString "node2stacki", .ref aD), (Str.ofString "seen", .ref aE), (Str.ofString "itstack", .ref aI), (Str.ofString "stack", .ref aS), (Str.ofString "n2i", .ref σ.N), (Str.ofString "self", .ref σ.X)] (ownD prog w σ aS aI aE aD [] [] [] fro) s s11 := H
  -- for node in n2i
  have hkl : σ.kvs.length = σ.ord.length := by unfold Sg.kvs; simp
  refine x_forGK (n := σ.kvs.length) (P := fun i v => ∃ k x, σ.kvs[i]? = some (k, x) ∧ (intKind prog w).is k v = true)
    (fun i m own => Nm σ aS aI aE aD m ∧ ∃ seen fin, own = ownD prog w σ aS aI aE aD [] [] seen fro ∧ Dv σ.ord σ.sc [] seen fin [] ∧ ∀ k ∈ σ.ord.take i, k ∈ seen)
    (fun m v => (Str.ofString "node", v) :: m) (fun own v => own) H ?_ ⟨⟨rfl, rfl, rfl, rfl, rfl⟩, [], [], rfl, Dv.start, by simp⟩ ?_ ?_ ?_
  · refine n_loc H.ns rfl ⟨Kp.same _, ?_⟩
    have xN := x.n.keep H.keep
    refine srcX_dict Rm.hh xN x.sy ?_
    intro it s12 h12
    refine ⟨_, h12, ?_⟩
    intro a ha
    rw [List.mem_singleton.mp ha]
    obtain ⟨o, es, n, e1, _⟩ := x.N_ob
    refine ⟨fun q => ?_, fun p hp q => ?_⟩
    · have := H.above; rw [← q, e1] at this; cases this
    · have := (H.owns p hp).2.2; rw [q, e1] at this; cases this
  · rintro i v g' s12 m own Q' E' ⟨_, seen, fin, rfl, _⟩ H' hq
    exact wpAny_assign_Name (s_loc H' hq)
  · rintro i v m own g1 s12 E' K1 kn1 kr1 hi ⟨kk, xx, hkk, hvv⟩ ⟨hnm, seen, fin, rfl, dv, htk⟩ kg1 H
    obtain ⟨k, hk, rfl⟩ : ∃ k : Nat, σ.ord[i]? = some k ∧ kk = (k : Int) := by
      unfold Sg.kvs at hkk
      rw [List.getElem?_map] at hkk
      obtain ⟨k, h1, h2⟩ := Option.map_eq_some_iff.mp hkk
      cases h2
      exact ⟨k, h1, rfl⟩
    obtain ⟨t, rfl⟩ := is_int hvv
    have hko : k ∈ σ.ord := List.mem_of_getElem? hk
    have et : σ.ord.take (i + 1) = σ.ord.take i ++ [k] := by rw [List.take_add_one, hk]; rfl
    have len5 : ∀ {q : List (Nat × Nat)} {seen fin cs : List Nat}, Dv σ.ord σ.sc q seen fin cs → seen.length ≤ 5 := fun d => nd_len 5 _ d.snd fun k hk => x.lt k (d.sV k hk)
    have lenq : ∀ {q : List (Nat × Nat)} {seen fin cs : List Nat}, Dv σ.ord σ.sc q seen fin cs → q.length ≤ 5 := fun {q} {_} {_} {_} d => by
      have := nd_len 5 _ d.nd fun k hk => x.lt k (by
        obtain ⟨y, hy, rfl⟩ := List.mem_map.mp hk
        exact (d.inV y hy).1)
      simpa using this
    have B1 : Bs w g1 := B.keeps kg1
    have x1 : Sor prog w g1 σ := x.keeps kg1
    -- if node in seen: continue
    with_reducible refine x_if ?_
    refine t_cmp ?_
    refine n_loc H.ns rfl ?_
    refine n_loc H.ns hnm.seen ?_
    refine in_set (i := 1) H rfl (by have := len5 dv; omega) ?_
    intro s13 k13
    replace H := H.keeps k13
    refine tru_b ?_
    by_cases hks : k ∈ seen
    · refine ite_t (decide_eq_true hks) ?_
      with_reducible refine x_cont ?_
      refine (kn1 _ _ _ H ⟨hnm.node _, seen, fin, rfl, dv, ?_⟩).2
      intro j hj
      rw [et] at hj
      rcases List.mem_append.mp hj with hj | hj
      · exact htk j hj
      · rw [List.mem_singleton.mp hj]; exact hks
    refine ite_f (decide_eq_false hks) ?_
    refine x_nil ?_
    -- while True
    refine x_whileK (fun n s' => ∃ fr sn fn c tc m' g vs, DS prog w g1 L σ aS aI aE aD fro s fr sn fn [c] m' s' g vs ∧ m'.lookup (Str.ofString "node") = some (.int ((c : Nat) : Int) tc) ∧ (∀ j ∈ seen, j ∈ sn) ∧ (k ∈ sn ∨ c = k) ∧ n = left σ.ord σ.sc sn + lefts σ.sc (qs fr)) _
      ⟨[], seen, fin, k, t, _, g1, [], ⟨fun _ _ e => e, H, .nil, by simp, hnm.node _, dv.root hko⟩, rfl, fun _ h => h, .inr rfl, rfl⟩ ?_
    rintro E2 n s14 K2 kn2 kb2 kr2 ⟨fr, sn, fn, c, tc, m', g, vs, D, hnode, hsub, hkc, rfl⟩
    refine wpAny_isTrue_value (wpAny_Constant_bool (tru_b ?_))
    refine ite_t rfl ?_
    refine x_ifCK (fun s' => ∃ fr2 sn2 fn2 m2 g2 vs2, DS prog w g1 L σ aS aI aE aD fro s fr2 sn2 fn2 [] m2 s' g2 vs2 ∧ (∀ j ∈ seen, j ∈ sn2) ∧ k ∈ sn2 ∧ left σ.ord σ.sc sn2 + lefts σ.sc (qs fr2) ≤ left σ.ord σ.sc sn + lefts σ.sc (qs fr)) ?_ ?_
    · intro K3 kc3 kf3
      obtain ⟨up, H, iv, wr, nm, dv⟩ := D
      have B2 : Bs w g := B1.keeps up
      have x2 : Sor prog w g σ := x1.keeps up
      have hvl : vs.length = (stk fr).length := by rw [iv.length]; simp [nums]
      have hql : (stk fr).length ≤ 5 := by rw [stk_len]; have := lenq dv; simpa [qs] using this
      have hcV : c ∈ σ.ord := dv.cV c (.head _)
      refine t_cmp ?_
      refine n_loc H.ns hnode ?_
      refine n_loc H.ns nm.seen ?_
      refine in_set (i := 1) H rfl (by have := len5 dv; omega) ?_
      intro s15 k15
      replace H := H.keeps k15
      refine tru_b ?_
      by_cases hc : c ∈ sn
      · refine ite_t (decide_eq_true hc) ?_
        -- if node in node2stacki
        with_reducible refine x_if ?_
        refine t_cmp ?_
        refine n_loc H.ns hnode ?_
        refine n_loc H.ns nm.n2s ?_
        refine in_d (i := 0) H rfl hDm ?_
        intro s16 k16
        replace H := H.keeps k16
        refine tru_b ?_
        by_cases hcs : c ∈ stk fr
        · refine ite_t (decide_eq_true hcs) ?_
          with_reducible refine x_ret ?_
          with_reducible refine e_bin ?_
          refine e_from ?_
          refine n_loc H.ns nm.stack ?_
          refine e_dint ?_
          refine n_loc H.ns nm.n2s ?_
          refine n_loc H.ns hnode ?_
          obtain ⟨od, hod, hpd⟩ := H.at (i := 0) rfl
          refine ⟨aD, c, tc, od, stk fr, rfl, rfl, hod, hpd, hcs, ?_⟩
          intro ix tx s17 k17 hix
          replace H := H.keeps k17
          have hixl : ix < (stk fr).length := by obtain ⟨q, _⟩ := List.getElem?_eq_some_iff.mp hix; exact q
          have hsl : 1000 ≤ sizeLine := by decide
          refine ⟨aS, vs, ix, tx, rfl, rfl, by omega, plain_list (H.lst (i := 3) rfl), by omega, ?_⟩
          intro D1 s18 k18 l18
          replace H := H.keeps k18
          with_reducible refine e_list ?_
          with_reducible refine i_cons ?_
          refine n_loc H.ns hnode ?_
          with_reducible refine i_nil ?_
          refine ⟨by simp; omega, ?_⟩
          intro D2 s19 hD2 k19 l19
          replace H := H.keeps k19
          refine add_l (l18.at fun o e => k19.get _ o e) l19 (by simp; omega) ?_
          intro D3 s20 hD3 k20 l20
          have hg3 : g.get? D3 = none := by
            cases q : g.get? D3 with
            | none => rfl
            | some o => have := H.keep _ _ q; rw [hD3] at this; cases this
          have hf3 : ∀ p ∈ fro, p.1 ≠ D3 := fun p hp q => by
            obtain ⟨⟨o, ho, _⟩, _⟩ := H.owns p (by unfold ownD; simp [hp])
            rw [q, hD3] at ho; cases ho
          replace H := H.keeps k20
          refine kf3 _ _ (kr2 _ _ (kr1 _ _ ⟨H.near, fun b o e => H.keep b o (up b o (kg1 b o e)), fun p hp => (H.owns p (by unfold ownD; simp [hp])).1, .inr ⟨D3, _, rfl, l20, by simp, by simp; omega, ⟨c, hcV, dv.ring (mem_stk.mp hcs)⟩, ?_, hf3⟩⟩)) (fun q => by cases q)
          cases q : g0.get? D3 with
          | none => rfl
          | some o => have := up _ _ (kg1 _ _ q); rw [hg3] at this; cases this
        · refine ite_f (decide_eq_false hcs) ?_
          refine x_nil (x_nil ?_)
          exact kc3 _ ⟨fr, sn, fn, m', g, vs, ⟨up, H, iv, wr, nm, dv.skip hc fun q => hcs (mem_stk.mpr q)⟩, hsub, hkc.elim id (fun e => e ▸ hc), Nat.le_refl _⟩
      · refine ite_f (decide_eq_false hc) ?_
        have hcst : c ∉ stk fr := fun q => hc ((dv.sn c).mpr (.inl (mem_stk.mp q)))
        -- seen.add(node)
        with_reducible refine x_expr ?_ (by kernel_rfl) (by kernel_rfl)
        with_reducible refine m_call ?_
        refine n_loc H.ns nm.seen ?_
        refine gm_set (i := 1) F.slot_set_add F.type_set_add H rfl ?_
        with_reducible refine cw1 ?_
        with_reducible refine i_cons ?_
        refine n_loc H.ns hnode ?_
        with_reducible refine i_nil ?_
        refine add_set (i := 1) H rfl (by have := len5 dv; omega) ?_
        intro s16 H
        replace H : St g L m' (ownD prog w σ aS aI aE aD vs fr (c :: sn) fro) s s16 := H
        refine ⟨rfl, ?_⟩
        -- itstack.append(iter(n2i[node].successors).__next__)
        with_reducible refine x_expr ?_ (by kernel_rfl) (by kernel_rfl)
        with_reducible refine m_call ?_
        refine n_loc H.ns nm.itstack ?_
        refine gm_list F.slot_list_append F.type_list_append (H.lst (i := 2) rfl) ?_
        with_reducible refine cw1 ?_
        with_reducible refine i_cons ?_
        with_reducible refine e_attr ?_
        with_reducible refine c_bi (H.bs B2) (by k_is) boot_iter' ?_
        with_reducible refine i_cons ?_
        with_reducible refine e_attr ?_
        refine e_ditem ?_
        refine n_loc H.ns nm.n2i ?_
        refine n_loc H.ns hnode ?_
        refine ⟨σ, c, tc, rfl, rfl, x2.keeps H.keep, hcV, ?_⟩
        intro s17 k17
        replace H := H.keeps k17
        refine i_sc (H.bs B2) (x2.keeps H.keep) hcV ?_
        intro s18 k18
        replace H := H.keeps k18
        with_reducible refine i_nil ?_
        obtain ⟨us, hus, hui⟩ := (x2.keeps H.keep).s c hcV
        refine it_list (plain_list hus) ?_
        intro I s19 hIn k19 hIt
        replace H := H.more k19 hIn hIt
        obtain ⟨oI, hoI, slI, rfl⟩ := H.at (i := 0) rfl
        refine at_next hoI ?_
        intro W s20 hWn k20 hW
        obtain ⟨g3, H, up3, hW3⟩ := H.frz k20 hWn
        replace hW3 := hW3 _ hW
        with_reducible refine i_nil ?_
        refine app_own (i := 3) H rfl ?_ ?_
        · have : 1000 ≤ sizeLine := by decide
          simp only [List.length_map, List.length_reverse]
          rw [stk_len] at hql; omega
        intro s21 H
        refine ⟨rfl, ?_⟩
        have B3 : Bs w g3 := B2.keeps up3
        -- node2stacki[node] = len(stack)
        refine wpAny_execs_cons (wpAny_Assign_Subscript ?_ (by kernel_rfl))
        with_reducible refine c_bi (H.bs B3) (by k_is) boot_len ?_
        with_reducible refine i_cons ?_
        refine n_loc H.ns nm.stack ?_
        with_reducible refine i_nil ?_
        refine len_l (plain_list (H.lst (i := 4) rfl)) (by omega) ?_
        intro t22 s22 k22
        replace H := H.keeps k22
        refine n_loc H.ns nm.n2s ?_
        refine n_loc H.ns hnode ?_
        rw [hvl]
        refine set_d (i := 1) (l := stk fr) H rfl (by omega) hcst ?_
        intro s23 H
        -- stack.append(node)
        with_reducible refine x_expr ?_ (by kernel_rfl) (by kernel_rfl)
        with_reducible refine m_call ?_
        refine n_loc H.ns nm.stack ?_
        refine gm_list F.slot_list_append F.type_list_append (H.lst (i := 4) rfl) ?_
        with_reducible refine cw1 ?_
        with_reducible refine i_cons ?_
        refine n_loc H.ns hnode ?_
        with_reducible refine i_nil ?_
        refine app_own (i := 4) H rfl ?_ ?_
        · have : 1000 ≤ sizeLine := by decide
          omega
        intro s24 H
        refine ⟨rfl, x_nil ?_⟩
        have dv' := dv.push hc
        refine kc3 _ ⟨⟨c, I, W, 0⟩ :: fr, c :: sn, fn, m', g3, vs ++ [.int (c : Int) tc], ⟨fun b o e => up3 b o (up b o e), ?_, ?_, ?_, nm, dv'⟩, fun j hj => .tail _ (hsub j hj), ?_, ?_⟩
        · refine H.perm ?_
          unfold ownD
          rw [stk_cons, List.reverse_cons, List.map_append, List.map_cons (l := fr)]
          exact (List.perm_middle (l₁ := [_, _, _, _])).symm
        · rw [stk_cons]
          unfold nums
          rw [List.map_append]
          exact ints_snoc iv
        · intro f hf
          rcases List.mem_cons.mp hf with rfl | hf
          · exact hW3
          · exact up3 _ _ (wr f hf)
        · rcases hkc with h | h
          · exact .tail _ h
          · rw [h]; exact .head _
        · have e1 := left_cons (G := σ.sc) x.nd hcV hc
          have e2 : lefts σ.sc (qs (⟨c, I, W, 0⟩ :: fr)) = (σ.sc c).length + lefts σ.sc (qs fr) := by simp [lefts, qs]
          omega
    · rintro s15 ⟨fr2, sn2, fn2, m2, g2, vs2, D2, hsub2, hk2, hle2⟩
      refine x_whileEK (fun nn s' => ∃ fr2 sn2 fn2 m2 g2 vs2, DS prog w g1 L σ aS aI aE aD fro s fr2 sn2 fn2 [] m2 s' g2 vs2 ∧ (∀ j ∈ seen, j ∈ sn2) ∧ k ∈ sn2 ∧ left σ.ord σ.sc sn2 + lefts σ.sc (qs fr2) ≤ left σ.ord σ.sc sn + lefts σ.sc (qs fr) ∧ nn = fr2.length) _ ⟨fr2, sn2, fn2, m2, g2, vs2, D2, hsub2, hk2, hle2, rfl⟩ ?_
      clear hle2 hk2 hsub2 D2 vs2 g2 m2 fn2 sn2 fr2 D
      rintro E3 nn s16 K4 K5 kn4 kb4 kf4 kr4 ⟨fr2, sn2, fn2, m2, g2, vs2, D2, hsub2, hk2, hle2, rfl⟩
      obtain ⟨up, H, iv, wr, nm, dv⟩ := D2
      have B2 : Bs w g2 := B1.keeps up
      have x2 : Sor prog w g2 σ := x1.keeps up
      have hvl : vs2.length = (stk fr2).length := by rw [iv.length]; simp [nums]
      have hql : (stk fr2).length ≤ 5 := by rw [stk_len]; have := lenq dv; simpa [qs] using this
      refine t_name ?_
      refine n_loc H.ns nm.stack ?_
      refine t_list (plain_list (H.lst (i := 3) rfl)) (by omega) ?_
      intro s17 k17
      replace H := H.keeps k17
      cases fr2 with
      | nil =>
        obtain rfl : vs2 = [] := by
          have : vs2.length = 0 := by rw [hvl]; rfl
          exact List.eq_nil_of_length_eq_zero this
        refine ite_f (show (!([] : List Value).isEmpty) = false from rfl) ?_
        with_reducible refine x_brk ?_
        refine kf4 _ _ (kb2 _ (x_nil (kn1 m2 _ _ (H.base up) ⟨nm, sn2, fn2, rfl, dv, ?_⟩).1)) (fun q => by cases q)
        intro j hj
        rw [et] at hj
        rcases List.mem_append.mp hj with hj | hj
        · exact hsub2 j (htk j hj)
        · rw [List.mem_singleton.mp hj]; exact hk2
      | cons f r =>
        have hsp : ∃ vs0 tk, vs2 = vs0 ++ [.int (f.k : Int) tk] ∧ IntsAre vs0 (nums (stk r)) := by
          rw [stk_cons] at iv
          unfold nums at iv
          rw [List.map_append] at iv
          exact ints_unsnoc iv
        obtain ⟨vs0, tk, rfl, iv0⟩ := hsp
        have hne : (!(vs0 ++ [Value.int (f.k : Int) tk]).isEmpty) = true := by cases vs0 <;> rfl
        refine ite_t (hne) ?_
        have hfk : f.k ∈ σ.ord := (dv.inV (f.k, f.pos) (by simp [qs])).1
        have hWf := wr f (.head _)
        obtain ⟨us, hus, hui⟩ := x2.s f.k hfk
        refine wpAny_execs_cons (wpAny_Try_except ?_)
        -- node = itstack[-1]()
        with_reducible refine x_assign ?_ (by kernel_rfl)
        refine c_sub ?_
        refine e_last ?_
        refine n_loc H.ns nm.itstack ?_
        intro s18 k18
        replace H := H.keeps k18
        have hIl := plain_list (H.lst (i := 2) rfl)
        rw [List.reverse_cons, List.map_append] at hIl
        refine ⟨aI, r.reverse.map (fun f => .ref f.W), .ref f.W, rfl, hIl, ?_⟩
        refine cw_W (H.keep _ _ hWf) ?_
        obtain ⟨oI, hoI, hpI⟩ := H.at (i := 4) rfl
        have hUl : s18.heap.IsList (σ.S f.k) us.toArray := plain_list (hus.at fun o e => H.keep _ o e)
        cases hc : (σ.sc f.k)[f.pos]? with
        | some c =>
          have hn : (nums (σ.sc f.k))[f.pos]? = some (c : Int) := by unfold nums; rw [List.getElem?_map, hc]; rfl
          obtain ⟨tc2, hx⟩ := ints_at hui hn
          refine next_item hoI hpI hUl hx ?_
          intro h' hI' sb
          refine ⟨_, rfl, ?_⟩
          have H' := H.set (i := 4) (tk := s18.toks) rfl sb hI'
          refine s_loc H' ?_
          intro s19 H
          with_reducible refine x_brk ?_
          have eo : (ownD prog w σ aS aI aE aD (vs0 ++ [.int (f.k : Int) tk]) (f :: r) sn2 fro).set 4 (f.I, isIt (σ.S f.k) (f.pos + 1)) = ownD prog w σ aS aI aE aD (vs0 ++ [.int (f.k : Int) tk]) ({ f with pos := f.pos + 1 } :: r) sn2 fro := by
            unfold ownD
            rw [stk_cons, stk_cons, List.reverse_cons, List.reverse_cons, List.map_append, List.map_append]
            rfl
          rw [eo] at H
          have iv' : IntsAre (vs0 ++ [.int (f.k : Int) tk]) (nums (stk ({ f with pos := f.pos + 1 } :: r))) := by
            rw [stk_cons] at iv ⊢; exact iv
          refine (kb4 _ (x_nil (kn2 _ ⟨_, ?_, { f with pos := f.pos + 1 } :: r, sn2, fn2, c, tc2, _, g2, vs0 ++ [.int (f.k : Int) tk], ⟨up, H, iv', ?_, nm.node _, dv.adv hscm hc⟩, rfl, hsub2, .inl hk2, rfl⟩).1)).1
          · have hl : f.pos < (σ.sc f.k).length := by obtain ⟨q, _⟩ := List.getElem?_eq_some_iff.mp hc; exact q
            have e1 : lefts σ.sc (qs (f :: r)) = (σ.sc f.k).length - f.pos + lefts σ.sc (qs r) := by simp [lefts, qs]
            have e2 : lefts σ.sc (qs ({ f with pos := f.pos + 1 } :: r)) = (σ.sc f.k).length - (f.pos + 1) + lefts σ.sc (qs r) := by simp [lefts, qs]
            refine Nat.lt_of_lt_of_le (Nat.add_lt_add_left ?_ _) hle2
            rw [e1, e2]; exact Nat.add_lt_add_right (Nat.sub_lt_sub_left hl (Nat.lt_succ_self _)) _
          · intro f' hf'
            rcases List.mem_cons.mp hf' with rfl | hf'
            · exact hWf
            · exact wr f' (.tail _ hf')
        | none =>
          have hn : us[f.pos]? = none := by
            have h1 : us.length = (σ.sc f.k).length := by rw [hui.length]; simp [nums]
            rw [List.getElem?_eq_none_iff] at hc ⊢
            rw [h1]; exact hc
          refine next_stop Rm.hh hoI hpI hUl hn ?_
          intro h' e eb he hx
          have heL : e ≠ L := fun q => by obtain ⟨o, _, _, ho, _⟩ := H.ns; rw [← q, he] at ho; cases ho
          have heg : g2.get? e = none := by
            cases q : g2.get? e with
            | none => rfl
            | some o => have := H.keep _ _ q; rw [he] at this; cases this
          have heo : ∀ p ∈ ownD prog w σ aS aI aE aD (vs0 ++ [.int (f.k : Int) tk]) (f :: r) sn2 fro, p.1 ≠ e := fun p hp q => by
            obtain ⟨⟨o, ho, _⟩, _⟩ := H.owns p hp
            rw [q, he] at ho; cases ho
          have hIo := H.owns (f.I, isIt (σ.S f.k) f.pos) (by unfold ownD; simp)
          have hIa : ∀ p ∈ (aD, isD prog w (stk (f :: r))) :: (aE, isSet sn2) :: (aI, isL ((f :: r).reverse.map fun f => Value.ref f.W)) :: (aS, isL (vs0 ++ [.int (f.k : Int) tk])) :: (r.map (fun f => (f.I, isIt (σ.S f.k) f.pos)) ++ fro), p.1 ≠ f.I := by
            have := H.perm (own' := (f.I, isIt (σ.S f.k) f.pos) :: (aD, isD prog w (stk (f :: r))) :: (aE, isSet sn2) :: (aI, isL ((f :: r).reverse.map fun f => Value.ref f.W)) :: (aS, isL (vs0 ++ [.int (f.k : Int) tk])) :: (r.map (fun f => (f.I, isIt (σ.S f.k) f.pos)) ++ fro)) (by
              unfold ownD
              exact List.perm_middle (l₁ := [_, _, _, _]))
            intro p hp q
            exact (List.pairwise_cons.mp this.apart).1 p hp q.symm
          have H0 := H.sub (own' := (aD, isD prog w (stk (f :: r))) :: (aE, isSet sn2) :: (aI, isL ((f :: r).reverse.map fun f => Value.ref f.W)) :: (aS, isL (vs0 ++ [.int (f.k : Int) tk])) :: (r.map (fun f => (f.I, isIt (σ.S f.k) f.pos)) ++ fro)) (by
            unfold ownD
            exact .cons_cons _ (.cons_cons _ (.cons_cons _ (.cons_cons _ (.cons _ (.refl _))))))
          have H1 := H0.but (h' := h') (tk := s18.toks) (wr := [f.I]) (fun b o hb q => eb b o (by simpa using hb) q) (by simpa using Ne.symm hIo.2.1) (by simpa using hIo.2.2) (fun p hp => by simpa using hIa p hp)
          clear H H0
          refine caught_stop (outer := outer) (B1.keeps up) (by k_is) H1 ?_ hfr1 rfl rfl hx heL heg (fun p hp => heo p ?_) ?_
          · intro env henv
            obtain ⟨h1, F, o₀, h2, h3, h4⟩ := K env henv
            exact ⟨h1, F, o₀, h2, by simp [h3], h4⟩
          · unfold ownD
            simp only [List.map_cons, List.cons_append, List.mem_cons] at hp ⊢
            rcases hp with h | h | h | h | h
            · exact .inl h
            · exact .inr (.inl h)
            · exact .inr (.inr (.inl h))
            · exact .inr (.inr (.inr (.inl h)))
            · exact .inr (.inr (.inr (.inr (.inr h))))
          intro E4 s20 H
          have hfr0 : f.k ∉ stk r := fun q => (List.nodup_cons.mp dv.nd).1 (by simpa [qs] using mem_stk.mp q)
          rw [stk_cons, List.reverse_cons, List.map_append] at H
          rw [stk_cons, List.length_append, List.length_singleton] at hvl hql
          rw [List.length_append, List.length_singleton] at hvl
          -- del node2stacki[stack.pop()]
          refine wpAny_execs_cons (wpAny_Delete (wpAny_deleteEach_cons (delete_Subscript ?_)))
          refine n_loc H.ns nm.n2s ?_
          with_reducible refine m_call ?_
          refine n_loc H.ns nm.stack ?_
          refine gm_list F.slot_list_pop F.type_list_pop (H.lst (i := 3) rfl) ?_
          with_reducible refine cw0 ?_
          refine pop_own (i := 3) H rfl (by omega) ?_
          intro s21 H
          refine del_d (i := 0) (l := stk r) H rfl (by omega) hfr0 ?_
          intro s22 H
          refine wpAny_deleteEach_nil ?_
          -- itstack.pop()
          with_reducible refine x_exprA ?_ (by kernel_rfl) (by kernel_rfl)
          with_reducible refine m_call ?_
          refine n_loc H.ns nm.itstack ?_
          refine gm_list F.slot_list_pop F.type_list_pop (H.lst (i := 2) rfl) ?_
          with_reducible refine cw0 ?_
          refine pop_own (i := 2) H rfl (by simp only [List.length_map, List.length_reverse]; rw [stk_len] at hql; omega) ?_
          intro s23 H
          refine x_nil (x_nil (kn4 _ ⟨r.length, by simp, r, sn2, fn2 ++ [f.k], m2, g2, vs0, ⟨up, H, iv0, fun f' hf' => wr f' (.tail _ hf'), nm, dv.pop hc⟩, hsub2, hk2, ?_, rfl⟩).1)
          have e1 : lefts σ.sc (qs (f :: r)) = (σ.sc f.k).length - f.pos + lefts σ.sc (qs r) := by simp [lefts, qs]
          omega
  · rintro m own s12 ⟨hnm, seen, fin, rfl, dv, htk⟩ H
    with_reducible refine x_ret ?_
    refine wpAny_Constant_none ?_
    refine ⟨H.near, H.keep, fun p hp => (H.owns p ?_).1, .inl ⟨rfl, fin, dv.tp, fun k hk => ?_⟩⟩
    · unfold ownD; simp [hp]
    · have h1 : k ∈ seen := htk k (by rw [hkl]; simpa using hk)
      exact ((dv.sn k).mp h1).resolve_left (by simp)
end
end Mine
end

-- F7
section
open PySem PySem.W PyProof.Rows PySem.Calls
set_option Elab.async false
set_option maxRecDepth 100000
set_option linter.unusedVariables false
set_option linter.unusedSimpArgs false
namespace Mine
noncomputable def Trc (h : Heap) (e : Addr) (X : Value) (off : Addr → Prop) : Prop := ∃ oe vs T oT ts, h.get? e = some oe ∧ oe.cls = X ∧ oe.data = .fields vs ∧ vs[1]? = some (.ref T) ∧ h.get? T = some oT ∧ oT.data = .fields ts ∧ ts[3]? = some .none ∧ T ≠ e ∧ off T
section
variable {prog : Program} {w : World} {A : Around} {E : Value → Shared → Prop} {s : Shared} {env : Env}
  {g : Heap} {L e : Addr} {m : List (Str × Value)} {own : List (Addr × (Obj → Prop))} {s₀ : Shared} {outer : List Env} {X : Value}
theorem noted_tail {head : Value} {hadNext : Bool} {Q : Unit → Shared → Prop} (H : St g L m own s₀ s) (K : FrOk outer own) (hfr : A.frames = some (env :: outer)) (hf : env.frame = some L) (hk : env.scope.kind ≠ .module)
    (hx : ∃ ob fs, s.heap.get? e = some ob ∧ ob.cls = X ∧ ob.data = .fields fs ∧ 1 < fs.size) (heL : e ≠ L) (heg : g.get? e = none) (heo : ∀ p ∈ own, p.1 ≠ e)
    (k : ∀ s', St g L m own s₀ s' → Trc s'.heap e X (fun T => T ≠ L ∧ g.get? T = none ∧ ∀ p ∈ own, p.1 ≠ T) → Q () s') :
    wpAny (model prog w) A (do let a ← frameOf env; let pl ← entryPlaceOf L hadNext; let b ← EntryCells.newEntry head a .none (rawInt L) .none pl; setField (.ref e) 1 b) (fun _ s' => wpAny (model prog w) A (setFlight (.ref e) none) Q E s') E s := by
  obtain ⟨ob, fs, he, hcls, hd, hsz⟩ := hx
  obtain ⟨oL, esL, epL, hL, hLd, hLk, hLf⟩ := id H.ns
  obtain ⟨Fs, hFs⟩ : ∃ Fs, Fs = (env :: outer).filterMap (·.frame) := ⟨_, rfl⟩
  have hbase : ∀ env' ∈ env :: outer, ∀ F, env'.frame = some F → (hideAll s.heap (e :: Fs)).get? F = none := fun env' he' F hF => hideAll_none _ (by rw [hFs]; exact .tail _ (List.mem_filterMap.mpr ⟨env', he', hF⟩))
  have hl : s.heap.FunFrames (hideAll s.heap (e :: Fs)) (env :: outer) := by
    refine ⟨hk, ⟨L, oL, hf, hbase env (.head _) L hf, hL, fun vs q => by rw [hLd] at q; cases q⟩, ?_⟩
    exact K.fun (fun p hp => (H.owns p hp).1) fun env' he' => hbase env' (.tail _ he')
  refine wpAny_newEntry (base := hideAll s.heap (e :: Fs)) hfr hl hf he (fun b o q => of_hideAll _ q) (hideAll_none _ (.head _)) hd hsz fun h' hLeft => ?_
  obtain ⟨st, ff, ⟨oe, vs, T, oT, ts, t1, t2, t3, t4, t5, t6, t7, t8, t9⟩, up⟩ := hLeft
  have frOwn : ∀ F ∈ Fs, F = L ∨ ∃ o₀, (F, isF o₀) ∈ own ∧ ∀ vs, o₀.data ≠ .fields vs := by
    intro F hF
    rw [hFs] at hF
    obtain ⟨env', he', hF'⟩ := List.mem_filterMap.mp hF
    rcases List.mem_cons.mp he' with rfl | he'
    · exact .inl (Option.some.inj (hF'.symm.trans hf))
    · obtain ⟨_, F', o₀, hf', hm, hd'⟩ := K env' he'
      obtain rfl := Option.some.inj (hF'.symm.trans hf')
      exact .inr ⟨o₀, hm, hd'⟩
  have frUp : ∀ F ∈ Fs, ∃ o, h'.get? F = some o ∧ ∀ vs, o.data ≠ .fields vs := by
    intro F hF
    rcases frOwn F hF with rfl | ⟨o₀, hm, hd'⟩
    · obtain ⟨sl, q⟩ := up _ _ hL (fun vs q => by rw [hLd] at q; cases q)
      exact ⟨_, q, fun vs q => by simp only at q; rw [hLd] at q; cases q⟩
    · obtain ⟨⟨o, ho, sl, rfl⟩, _⟩ := H.owns _ hm
      obtain ⟨sl', q⟩ := up _ _ ho hd'
      exact ⟨_, q, hd'⟩
  have hTf : T ∉ Fs := fun q => by
    obtain ⟨o, ho, hn⟩ := frUp T q
    rw [t7] at ho; cases ho; exact hn _ t8
  have hTs : s.heap.get? T = none := by
    cases q : s.heap.get? T with
    | none => rfl
    | some o =>
      have := hideAll_get (e :: Fs) q (fun hm => (List.mem_cons.mp hm).elim t6 hTf)
      rw [t5] at this; cases this
  have keep : ∀ b o, s.heap.get? b = some o → b ≠ e → b ∉ Fs → h'.get? b = some o := fun b o q h1 h2 => st b o (hideAll_get _ q fun hm => (List.mem_cons.mp hm).elim h1 h2)
  have H' : St g L m own s₀ { s with heap := h' } := by
    refine ⟨?_, ?_, fun b o q => keep b o (H.keep b o q) (fun z => by rw [z, heg] at q; cases q) fun hm => ?_, H.above, fun p hp => ⟨?_, (H.owns p hp).2⟩, H.apart⟩
    · obtain ⟨h0, tk0, rfl⟩ := H.near
      exact ⟨h', tk0, rfl⟩
    · obtain ⟨sl, q⟩ := up _ _ hL (fun vs q => by rw [hLd] at q; cases q)
      exact ⟨_, esL, epL, q, hLd, hLk, hLf⟩
    · rcases frOwn b hm with rfl | ⟨o₀, hm', _⟩
      · rw [H.above] at q; cases q
      · have := (H.owns _ hm').2.2
        rw [this] at q; cases q
    · obtain ⟨⟨o, ho, hP⟩, _⟩ := H.owns p hp
      by_cases hpf : p.1 ∈ Fs
      · rcases frOwn _ hpf with hpL | ⟨o₀, hm', hd'⟩
        · exact absurd hpL (H.owns p hp).2.1
        · have hpe : p = (p.1, isF o₀) := by
            obtain ⟨i, hi, ei⟩ := List.getElem_of_mem hp
            obtain ⟨j, hj, ej⟩ := List.getElem_of_mem hm'
            rcases Nat.lt_trichotomy i j with h | h | h
            · have := (List.pairwise_iff_getElem.mp H.apart) i j hi hj h
              rw [ei, ej] at this; exact absurd rfl this
            · subst h; rw [← ei, ej]
            · have := (List.pairwise_iff_getElem.mp H.apart) j i hj hi h
              rw [ei, ej] at this; exact absurd rfl this
          rw [hpe] at hP
          obtain ⟨sl, rfl⟩ := hP
          obtain ⟨sl', q⟩ := up _ _ ho hd'
          refine ⟨_, q, ?_⟩
          rw [hpe]
          exact ⟨sl', rfl⟩
      · exact ⟨o, keep _ o ho (heo p hp) hpf, hP⟩
  refine k _ H' ⟨oe, vs, T, oT, ts, t1, t2.trans hcls, t3, t4, t7, t8, t9, t6, ?_, ?_, fun p hp q => ?_⟩
  · intro q; rw [q, hL] at hTs; cases hTs
  · cases q : g.get? T with
    | none => rfl
    | some o => have := H.keep _ _ q; rw [hTs] at this; cases this
  · obtain ⟨⟨o, ho, _⟩, _⟩ := H.owns p hp
    rw [q, hTs] at ho; cases ho
theorem noted_new {Q : Unit → Shared → Prop} (H : St g L m own s₀ s) (K : FrOk outer own) (hfr : A.frames = some (env :: outer)) (hf : env.frame = some L) (hk : env.scope.kind ≠ .module)
    (hx : ∃ ob fs, s.heap.get? e = some ob ∧ ob.cls = X ∧ ob.data = .fields fs ∧ fs[1]? = some .none) (heL : e ≠ L) (heg : g.get? e = none) (heo : ∀ p ∈ own, p.1 ≠ e)
    (k : ∀ s', St g L m own s₀ s' → Trc s'.heap e X (fun T => T ≠ L ∧ g.get? T = none ∧ ∀ p ∈ own, p.1 ≠ T) → Q () s') :
    wpAny (model prog w) A (noteFrame (.ref e) env) (fun _ s₂ => wpAny (model prog w) A (setFlight (.ref e) none) Q E s₂) E s := by
  obtain ⟨ob, fs, he, hcls, hd, h1⟩ := hx
  unfold noteFrame
  simp only [hf]
  refine wpAny_bind (wpAny_field he hd h1 ?_)
  rw [if_neg (by decide)]
  exact noted_tail H K hfr hf hk ⟨ob, fs, he, hcls, hd, (Array.getElem?_eq_some_iff.mp h1).1⟩ heL heg heo k
theorem noted_on {Q : Unit → Shared → Prop} (H : St g L m own s₀ s) (K : FrOk outer own) (hfr : A.frames = some (env :: outer)) (hf : env.frame = some L) (hk : env.scope.kind ≠ .module)
    (hx : Trc s.heap e X (fun T => T ≠ L ∧ g.get? T = none ∧ ∀ p ∈ own, p.1 ≠ T)) (heL : e ≠ L) (heg : g.get? e = none) (heo : ∀ p ∈ own, p.1 ≠ e)
    (k : ∀ s', St g L m own s₀ s' → Trc s'.heap e X (fun T => T ≠ L ∧ g.get? T = none ∧ ∀ p ∈ own, p.1 ≠ T) → Q () s') :
    wpAny (model prog w) A (noteFrame (.ref e) env) (fun _ s₂ => wpAny (model prog w) A (setFlight (.ref e) none) Q E s₂) E s := by
  obtain ⟨oe, vs, T, oT, ts, he, hcls, hd, h1, hT, hdT, h3, hTe, hTL, hTg, hTo⟩ := hx
  unfold noteFrame
  simp only [hf]
  refine wpAny_bind (wpAny_field he hd h1 ?_)
  rw [if_pos (show (Value.ref T != Value.none) = true from by simp)]
  refine wpAny_bind (wpAny_field hT hdT h3 ?_)
  rw [if_neg (show ¬ ((Value.none == rawInt L) = true) from by simp [rawInt])]
  refine wpAny_bind (wpAny_setField hT hdT (Array.getElem?_eq_some_iff.mp h3).1 ?_)
  have e3 : ({ s with heap := s.heap.update T (Obj.mapFields (·.setIfInBounds 3 .none)) } : Shared) = { s with heap := s.heap.update T (Obj.mapFields (·.setIfInBounds 3 .none)), toks := s.toks } := rfl
  rw [e3]
  have H' := H.upd (tk := s.toks) (Heap.SameBut.update s.heap T (Obj.mapFields (·.setIfInBounds 3 Value.none))) hTL hTg hTo
  exact noted_tail H' K hfr hf hk ⟨oe, vs, (Heap.get?_update_other _ _ hTe).trans he, hcls, hd, (Array.getElem?_eq_some_iff.mp h1).1⟩ heL heg heo k
end
end Mine
end

-- F8
section
open PySem PySem.W PyProof.Rows PySem.Calls
set_option Elab.async false
set_option maxRecDepth 100000
set_option linter.unusedVariables false
set_option linter.unusedSimpArgs false
namespace Mine
theorem cls106 {w : World} {g : Heap} (B : Bs w g) : ∃ nm q N bs sn sub col dd k0 k1 k2 k3 k5 hdct ab mN, g.get? 106 = some (excClassObj nm q 106 N bs [.type "ValueError", .type "Exception", .type "BaseException", .type "object"] hdct sn sub ab col dd k0 k1 k2 k3 k5 "ValueError.__new__") ∧ g.Ns N mN ∧ mN (Str.ofString "__init__") = none := by
  have hz : (fun (_ : PySem.W.OpenLaw × (Params → Frag)) => True) (PySem.Challenge.rw_of0070_01, Mine.hd.heap_39) := by (k_fill; trivial)
  have h1 := B.X 106 _ (by k_is)
  have h2 : ∃ mN, g.Ns 105 mN ∧ ∀ n v, nsIn (Mine.hd.heap_39 w.params) 105 n = some v → mN n = v := by
    refine ns_of B.X ?_
    have e : ∃ o, List.lookup 105 (Mine.hd.heap_39 w.params) = some o ∧ strKeysO o = true := ⟨_, by k_is, by kernel_rfl⟩
    obtain ⟨o, e1, e2⟩ := e
    unfold strKeysB
    rw [e1]
    unfold strKeysO at e2
    obtain ⟨oc, od, oda, osl⟩ := o
    cases oda <;> first | exact e2 | cases e2
  obtain ⟨mN, N, f⟩ := h2
  exact ⟨_, _, 105, _, _, _, _, _, _, _, _, _, _, _, _, mN, h1, N, f _ _ (by k_is)⟩
theorem St.adopt {g : Heap} {L a : Addr} {m : List (Str × Value)} {own : List (Addr × (Obj → Prop))} {s₀ s : Shared} {P : Obj → Prop} (H : St g L m own s₀ s) (ho : ∃ o, s.heap.get? a = some o ∧ P o) (hL : a ≠ L) (hg : g.get? a = none) (hp : ∀ p ∈ own, p.1 ≠ a) : St g L m ((a, P) :: own) s₀ s :=
  ⟨H.near, H.ns, H.keep, H.above, fun p hq => by
    rcases List.mem_cons.mp hq with rfl | hq
    · exact ⟨ho, hL, hg⟩
    · exact H.owns p hq, List.pairwise_cons.mpr ⟨fun p hq e => hp p hq e.symm, H.apart⟩⟩
theorem Sor.hide {prog : Program} {w : World} {h : Heap} {σ : Sg} {F : Addr} {m : Str → Option Value} (x : Sor prog w h σ) (hn : h.Ns F m) (hm : ∃ y v, m y = some v) (hd : σ.dX ≠ F) (hN : σ.N ≠ F) : Sor prog w (hideAll h [F]) σ :=
  x.loc hn hm hd hN fun b o hb e => hideAll_get _ e (by simpa using hb)
section
variable {prog : Program} {w : World} {A : Around} {E : Value → Shared → Prop} {env : Env} {s : Shared}
theorem src_values (hh : A.handled = none) {d v : Addr} {kvs : List (Int × Value)} (hv : s.heap.IsValuesView v d) (hd : s.heap.DictOf (intKind prog w) d kvs) {Q : Value → Shared → Prop}
    (h : ∀ it s₂, Src prog w A kvs.length (fun i v => ∃ k, kvs[i]? = some (k, v)) s it s₂ → Q it s₂) : wpAny (model prog w) A (pyIter (.ref v)) Q E s := by
  obtain ⟨ep, hA⟩ := hd.dictAt
  refine wpAny_pyIter_values hv hA ?_
  have hne : d ≠ s.heap.objs.size := Nat.ne_of_lt hA.lt_size
  have W := Walks.dictValues (prog := prog) (w := w) (knd := intKind prog w) hh s.heap.objs.size d hne kvs ep
  refine h _ _ ⟨_, _, _, _, rfl, W, ⟨⟨_, Heap.get?_push_size _ rfl, rfl, rfl⟩, hA.at' fun o e => Heap.get?_push_of_some _ e⟩, fun b hb => ?_, Kp.push _ _ _, fun b hb => ?_⟩
  · show b < (s.heap.push _).objs.size
    rw [Heap.size_push]
    rcases List.mem_cons.mp hb with e | hb
    · rw [e]; exact Nat.lt_succ_self _
    · rw [List.mem_singleton.mp hb]; exact Nat.lt_succ_of_lt hA.lt_size
  · rw [List.mem_singleton.mp hb]; exact fresh_size _ (Nat.le_refl _)
theorem call_values {d : Addr} {kvs : List (Int × Value)} {Q : Value → Shared → Prop} (hd : s.heap.DictOf (intKind prog w) d kvs) (hs : (d == sysModules) = false) (h : ∀ v s', s.heap.get? v = none → Kp s s' → s'.heap.IsValuesView v d → Q (.ref v) s') :
    wpAny (model prog w) A (call (.builtin "dict.values") [.ref d]) Q E s := by
  refine call_meetsIn F.slot_dict_values hd.typeIs F.entry_dict_values (F.args_dict_values_1 _) (meets_dict_values (intKind prog w) d hs) ⟨⟨kvs, hd⟩, ?_⟩
  exact h _ _ (fresh_size _ (Nat.le_refl _)) (Kp.push s _ s.toks) ⟨_, Heap.get?_push_size _ rfl, rfl, rfl⟩
end
section
variable {prog : Program} {w : World} {A : Around} {s : Shared} {R : Result → Shared → Prop} {f : Addr} {oc : Value} {od : Option Addr} {osl : Array (Option Value)} {name qual : Str} {params : Arguments} {body : List Stmt} {scope : Scope}
  {dV kV doc pm cdv ct : Value} {an : Option Addr}
theorem enterE {args : Args} {binds : List (Str × Value)} (B : Bs w s.heap) (hroom : A.depth < recursionLimit)
    (ho : List.lookup f (Mine.hd.heap_39 w.params) = some ⟨oc, od, .func (fnOf name qual params body scope dV kV doc pm an cdv ct), osl⟩) (hcd : codeIn (Mine.hd.heap_39 w.params) cdv qual = true)
    (hbind : BindsTo s (fnOf name qual params body scope dV kV doc pm an cdv ct) args binds) (hloc : ∀ y ∈ binds, scope.names.lookup y.1 = some .local)
    (h : ∀ s' A', Deep A A' → A'.frames = A.frames.map (envOf qual scope s.heap.objs.size f cdv :: ·) → St s.heap s.heap.objs.size binds.reverse [] s s' →
      wpAny (model prog w) A' (execs body (envOf qual scope s.heap.objs.size f cdv)) (fun fl s' => R (.ok (.ret (match fl with | .ret v => v | _ => .none))) s')
        (fun e s' => wpAny (model prog w) A' (leaving (envOf qual scope s.heap.objs.size f cdv) e) (fun _ s'' => R (.error e) s'') (fun e' s'' => R (.error e') s'') s') s')
    (hco : scope.isCoroutine = false := by rfl) (hgen : scope.isGenerator = false := by rfl) (hk : scope.kind = .function := by rfl)
    (hcell : ∀ x ∈ scope.names, x.2 ≠ .cell := by decide) : codeAny (model prog w) A (.call (.ref f) args) R s :=
  enter B hroom ho hcd hbind hloc (fun s' H => h s' _ ⟨rfl, rfl, rfl⟩ rfl H) hco hgen hk hcell
end
section
variable {prog : Program} {w : World} {A : Around} {E : Value → Shared → Prop} {env : Env} {s : Shared}
theorem x_raise106 {e₀ : Expr} {rest : List Expr} {rs : List Stmt} {np cpos pos : Pos} {Q : Flow → Shared → Prop} (B : Bs w s.heap) (hx : nsIn (Mine.hd.heap_39 w.params) mainGlobals (Str.ofString "CycleError") = some (some (.ref 106))) (hh : A.handled = none)
    (h : wpAny (model prog w) A (spliced (backTo cpos (starEach (e₀ :: rest) env))) (fun vs s₂ => vs.length ≤ sizeLine ∧ Kp s s₂ ∧ ∀ h' e, Heap.MadeExcOf s₂.heap h' e (.ref 106) vs → E (.ref e) { s₂ with heap := h' }) E s)
    (he : isStarred e₀ = false := by kernel_rfl) (hpl : rest.all (fun e => !isStarred e) = true := by kernel_rfl)
    (hg : env.globals = mainGlobals := by kernel_rfl) (hk : env.scope.kind = .function := by kernel_rfl) (hkx : env.kindOf (Str.ofString "CycleError") = some .globalImplicit := by kernel_rfl) :
    wpAny (model prog w) A (execs (.Raise (some (.Call (.Name (Str.ofString "CycleError") np) (e₀ :: rest) [] cpos)) none pos :: rs) env) Q E s := by
  obtain ⟨nm, q, N, bs, sn, sub, col, dd, k0, k1, k2, k3, k5, hdct, ab, mN, hC, hN, hni⟩ := cls106 B
  refine wpAny_execs_cons (wpAny_Raise_call_sub (C := 106) (nm := nm) (q := q) (N := N) (bs := bs) (hdct := hdct) (sn := sn) (sub := sub) (ab := ab) (col := col) (dd := dd) (k0 := k0) (k1 := k1) (k2 := k2) (k3 := k3) (k5 := k5)
    PySem.F.excBase_ValueError (mN := mN) hh (star_any (by rw [List.all_cons, he, hpl]; rfl)) hni (n_glob B hx ⟨rfl, ?_⟩ hg hk hkx (by kernel_rfl)))
  have key : backTo cpos (starEach (e₀ :: rest) env) = (false, eval e₀ env) :: backTo cpos (starEach rest env) := by rw [star_cons he]; rfl
  rw [key] at h ⊢
  exact Calls.evalArgs_plain (wpAny_mono h (fun vs s₂ h₂ => ⟨rfl, h₂.1, h₂.2.1.get _ _ hC, hN.keeps h₂.2.1.get, h₂.2.2⟩) fun _ _ y => y)
end
structure PrepR (prog : Program) (w : World) (s : Shared) (σ : Sg) (Fa : Addr) (σ' : Sg) (s' : Shared) : Prop where
  near : ∃ h tk, s' = { s with heap := h, toks := tk }
  keep : ∀ b o, b ∉ σ.vs → b ≠ Fa → s.heap.get? b = some o → s'.heap.get? b = some o
  fr : ∀ o, s.heap.get? Fa = some o → ∃ sl, s'.heap.get? Fa = some { o with slots := sl }
  x : Sor prog w s'.heap σ'
  nw : ∀ a ∈ σ'.vs, a ∈ σ.vs ∨ s.heap.get? a = none
noncomputable def rdy (σ : Sg) : List Nat := σ.ord.filter fun k => σ.np k == 0
section
variable {prog : Program} {w : World} {A : Around} {s : Shared} {σ : Sg} {env1 : Env} {Fa : Addr} {m1 : Str → Option Value}
set_option maxHeartbeats 1000000 in
theorem prepare_spec (Rm : Room A 6 60) (hfr : A.frames = some [env1]) (hk1 : env1.scope.kind ≠ .module) (hf1 : env1.frame = some Fa) (hF : s.heap.Ns Fa m1) (hne : ∃ y v, m1 y = some v) (hFv : Fa ∉ σ.vs)
    (B : Bs w (hideAll s.heap (Fa :: σ.vs))) (x : Sor prog w s.heap σ) (hr : σ.rd = none) (hfz : σ.fz = true) (hscm : ∀ k ∈ σ.ord, ∀ j ∈ σ.sc k, j ∈ σ.ord) (hscl : ∀ k ∈ σ.ord, (σ.sc k).length ≤ 100) :
    wpAny (model prog w) A (call (.ref 143) [.ref σ.X])
      (fun v s' => v = .none ∧ (∃ D, PrepR prog w s σ Fa { σ with rd := some (D, rdy σ) } s') ∧ ∃ fin, Topo σ.sc fin ∧ ∀ k ∈ σ.ord, k ∈ fin)
      (fun e s' => ∃ ea, e = .ref ea ∧ (∃ D, PrepR prog w s σ Fa { σ with rd := some (D, rdy σ) } s') ∧ (∃ k, k ∈ σ.ord ∧ Pl σ.sc k k) ∧ s.heap.get? ea = none ∧ Trc s'.heap ea (.ref 106) (fun T => s.heap.get? T = none)) s := by
  have hz : (fun (_ : PySem.W.OpenLaw × (Params → Frag)) => True) (PySem.Challenge.rw_of0070_01, Mine.hd.heap_39) := by (k_fill; trivial)
  have B0 : Bs w s.heap := B.keeps fun b o e => of_hideAll _ e
  refine opqE fun Q E hQ hE => ?_
  refine wpAny_call (enterE B0 Rm.low (by k_is) (by k_is) (BindsTo.of_eq rfl) (locs rfl) ?_)
  intro s1 A1 DA hfr1 H
  rw [hfr] at hfr1
  replace Rm := Rm.deep DA (d' := 5) (u' := 57) (by decide) (by decide)
  have hLV : ∀ a ∈ σ.vs, a ≠ s.heap.objs.size := fun a ha => x.vs_lt ha
  obtain ⟨oF, esF, epF, hFo, hFd, hFk, hFf⟩ := id hF
  have hLF : Fa ≠ s.heap.objs.size := Nat.ne_of_lt (Heap.lt_size hFo)
  generalize s.heap.objs.size = L at H hfr1 hLV hLF ⊢
  replace H : St s.heap L [(Str.ofString "self", .ref σ.X)] [] s s1 := H
  have x1 := x.keeps H.keep
  replace H : St (hideAll s.heap (Fa :: σ.vs)) L [(Str.ofString "self", .ref σ.X)] [(Fa, isF oF)] s s1 := by
    have := H.take (g' := hideAll s.heap (Fa :: σ.vs)) (fro := [(Fa, isF oF)]) (fun b o e => of_hideAll _ e) (fun p hp => by
      rw [List.mem_singleton.mp hp]; exact ⟨⟨oF, hFo, oF.slots, rfl⟩, hideAll_none _ (.head _)⟩) (by simp)
    exact this
  have G : Gd (hideAll s.heap (Fa :: σ.vs)) L [(Fa, isF oF)] σ := fun a ha => ⟨hideAll_none _ (.tail _ ha), hLV a ha, fun p hp => by rw [List.mem_singleton.mp hp]; exact fun q => hFv ((show Fa = a from q) ▸ ha)⟩
  have kgs : ∀ b o, b ∉ σ.vs → b ≠ Fa → s.heap.get? b = some o → (hideAll s.heap (Fa :: σ.vs)).get? b = some o := fun b o h1 h2 e => hideAll_get _ e (fun q => (List.mem_cons.mp q).elim h2 h1)
  have hFg : (hideAll s.heap (Fa :: σ.vs)).get? Fa = none := hideAll_none _ (.head _)
  generalize hideAll s.heap (Fa :: σ.vs) = g at H G B kgs hFg
  have d1 : σ.dX ≠ L := (G _ (mem_vs.mpr (.inl rfl))).2.1
  have n1 : σ.N ≠ L := (G _ (mem_vs.mpr (.inr (.inl rfl)))).2.1
  -- if self._ready_nodes is not None
  with_reducible refine x_if ?_
  refine t_cmp ?_
  with_reducible refine e_attr ?_
  refine n_loc H.ns rfl ?_
  refine at_rd (H.bs B) x1 ?_
  intro s2 k2
  replace H := H.keeps k2
  replace x1 := x1.keeps k2.get
  refine wpAny_Constant_none ?_
  rw [hr]
  refine wpAny_isNot_self rfl (tru_b ?_)
  refine ite_f rfl ?_
  refine x_nil ?_
  -- self._ready_nodes = [..]
  with_reducible refine x_seta ?_ (by kernel_rfl)
  have hkl : σ.kvs.length = σ.ord.length := by unfold Sg.kvs; simp
  have hol := nd_len 5 _ x.nd x.lt
  refine lc (n := σ.kvs.length) (P := fun i v => ∃ k, σ.kvs[i]? = some (k, v)) (fun i acc => IntsAre acc (nums ((σ.ord.take i).filter fun k => σ.np k == 0))) rfl ?_ .nil (by
    have : 5 ≤ sizeLine := by decide
    omega)
  with_reducible refine m_call ?_
  with_reducible refine e_attr ?_
  refine n_loc H.ns rfl ?_
  refine at_n2i (H.bs B) x1 ?_
  intro s3 k3
  replace H := H.keeps k3
  replace x1 := x1.keeps k3.get
  refine gm_dict F.slot_dict_values F.type_dict_values x1.n ?_
  with_reducible refine cw0 ?_
  refine call_values x1.n x1.sy ?_
  intro vw s4 hvw k4 hview
  replace H := H.keeps k4
  replace x1 := x1.keeps k4.get
  refine src_values Rm.hh hview x1.n ?_
  intro it s5 hsrc
  refine ⟨hsrc, ?_, ?_⟩
  · intro C m i v acc s6 E6 hi hP hJ hn hm hk
    obtain ⟨kk, hkk⟩ := hP
    obtain ⟨k, hkk1, rfl⟩ : ∃ k : Nat, σ.ord[i]? = some k ∧ v = .ref (σ.I k) := by
      unfold Sg.kvs at hkk
      rw [List.getElem?_map] at hkk
      obtain ⟨k, h1, h2⟩ := Option.map_eq_some_iff.mp hkk
      cases h2
      exact ⟨k, h1, rfl⟩
    have hko : k ∈ σ.ord := List.mem_of_getElem? hkk1
    have up : ∀ b o, s4.heap.get? b = some o → s6.heap.get? b = some o := fun b o e => hk b o (by simp) e
    have x6 := x1.keeps up
    have B6 : Bs w s6.heap := (H.bs B).keeps up
    have et : σ.ord.take (i + 1) = σ.ord.take i ++ [k] := by rw [List.take_add_one, hkk1]; rfl
    refine ct_one (t_cmp (e_attr ?_))
    refine n_loc hn hm ?_
    refine i_np B6 x6 hko ?_
    intro t7 s7 k7
    refine k_int ?_
    intro t8 s8 k8
    refine eq_i (tru_b ⟨k7.trans k8, ?_⟩)
    dsimp only
    rw [et, List.filter_append, List.filter_cons, List.filter_nil]
    by_cases h0 : σ.np k = 0
    · have e0 : (σ.np k == 0) = true := by simpa using h0
      rw [e0, if_pos rfl, if_pos rfl]
      with_reducible refine e_attr ?_
      refine n_loc ((hn.keeps k7.get).keeps k8.get) hm ?_
      refine i_nd ((B6.keeps k7.get).keeps k8.get) ((x6.keeps k7.get).keeps k8.get) hko ?_
      intro t9 s9 k9
      refine ⟨k9, ?_⟩
      unfold nums
      rw [List.map_append]
      exact ints_snoc hJ
    · have e0 : (σ.np k == 0) = false := by simpa using h0
      rw [e0, if_neg Bool.false_ne_true, if_neg Bool.false_ne_true, List.append_nil]
      exact hJ
  intro D s6 ys hD k6 hl6 hJ
  have hx4 := x1
  have H4 := H
  replace H := H.keeps k6
  replace x1 := x1.keeps k6.get
  have hJ' : IntsAre ys (nums (rdy σ)) := by
    unfold rdy
    have : σ.ord.take σ.kvs.length = σ.ord := by rw [hkl]; simp
    rw [this] at hJ; exact hJ
  have hDr : ListK s6.heap D (rdy σ) := ⟨ys, hl6, hJ'⟩
  have hDS : ∀ k ∈ σ.ord, D ≠ σ.S k := fun k hk q => by
    obtain ⟨vs, n, e⟩ := (hx4.s k hk).ob
    rw [← q, hD] at e; cases e
  have hDg : g.get? D = none := by
    cases q : g.get? D with
    | none => rfl
    | some o => have := H4.keep _ _ q; rw [hD] at this; cases this
  have hDL : D ≠ L := fun q => by obtain ⟨o, _, _, ho, _⟩ := H4.ns; rw [← q, hD] at ho; cases ho
  have hDF : D ≠ Fa := fun q => by obtain ⟨⟨o, ho, _⟩, _⟩ := H4.owns (Fa, isF oF) (.head _); rw [← q, hD] at ho; cases ho
  have hDs : s.heap.get? D = none := by
    cases q : s.heap.get? D with
    | none => rfl
    | some o =>
      by_cases hv : D ∈ σ.vs
      · obtain ⟨o', e'⟩ := hx4.vs_in hv; rw [hD] at e'; cases e'
      · have := kgs D o hv hDF q; rw [hDg] at this; cases this
  refine n_loc H.ns rfl ?_
  obtain ⟨σ2, h2e⟩ : ∃ σ2 : Sg, σ2 = { σ with rd := some (D, rdy σ) } := ⟨_, rfl⟩
  refine set_X (σ' := σ2) B H G x1 (by k_is) (by k_is) (by decide) (by rw [h2e]) ?_ ?_ ?_
  · intro mA b1 b2 b3 b4
    refine ⟨b1, ?_, ?_, ?_⟩
    · rw [h2e]; rfl
    · rw [h2e]; exact b3
    · rw [h2e]; exact b4
  · intro p hp
    rw [h2e] at hp
    cases hp
    exact ⟨hDr, hDS⟩
  intro s7 H x2 kp7
  have hX2 : σ2.X = σ.X := by rw [h2e]
  have hN2 : σ2.N = σ.N := by rw [h2e]
  have hd2 : σ2.dX = σ.dX := by rw [h2e]
  have ho2 : σ2.ord = σ.ord := by rw [h2e]
  have hs2 : σ2.sc = σ.sc := by rw [h2e]
  have hv2 : ∀ a ∈ σ2.vs, a ∈ σ.vs ∨ a = D := by
    intro a ha
    rw [h2e] at ha
    rcases mem_vs.mp ha with e | e | e | e | ⟨p, hp, e⟩
    · exact .inl (mem_vs.mpr (.inl e))
    · exact .inl (mem_vs.mpr (.inr (.inl e)))
    · exact .inl (mem_vs.mpr (.inr (.inr (.inl e))))
    · exact .inl (mem_vs.mpr (.inr (.inr (.inr (.inl e)))))
    · cases hp; exact .inr e.symm
  have hFN : σ2.N ≠ Fa ∧ σ2.dX ≠ Fa := by
    rw [hN2, hd2]
    exact ⟨fun q => hFv (q ▸ mem_vs.mpr (.inr (.inl rfl))), fun q => hFv (q ▸ mem_vs.mpr (.inl rfl))⟩
  obtain ⟨g2, H, kg2, k3⟩ := H.reb
  have x2' : Sor prog w g2 σ2 := by
    obtain ⟨⟨o7, ho7, sl7, e7⟩, _⟩ := H.owns (Fa, isF oF) (.head _)
    have nF : (hideAll s7.heap [L]).Ns Fa m1 := ⟨o7, esF, epF, hideAll_get _ ho7 (by simpa using hLF), by rw [e7]; exact hFd, hFk, hFf⟩
    have := (x2.hide H.ns ⟨Str.ofString "self", _, rfl⟩ (by rw [hd2]; exact d1) (by rw [hN2]; exact n1)).hide nF hne hFN.2 hFN.1
    refine this.keeps fun b o e => k3 b o (of_hideAll _ (of_hideAll _ e)) (fun q => ?_) (fun p hp q => ?_)
    · have := of_hideAll _ e; rw [q, hideAll_none _ (by simp)] at this; cases this
    · rw [List.mem_singleton.mp hp] at q
      have q' : Fa = b := q
      rw [← q', hideAll_none _ (by simp)] at e; cases e
  have B2 : Bs w g2 := B.keeps kg2
  -- cycle = self._find_cycle()
  with_reducible refine x_assign ?_ (by kernel_rfl)
  with_reducible refine m_call ?_
  rw [← hX2] at H
  refine n_loc H.ns rfl ?_
  refine gm_X (f := 178) (H.bs B2) (x2'.keeps H.keep) (by k_is) (by k_is) ?_
  with_reducible refine cf0 (H.bs B2) (by k_is) ?_
  obtain ⟨oL, esL, epL, hLo, hLd, hLk, hLf⟩ := id H.ns
  refine wpAny_mono (cycle_spec (fro := [(L, isF oL), (Fa, isF oF)]) (Rm.le (by decide) (by decide)) hfr1 B2 x2' H.keep ?_ ?_ ?_ (by rw [ho2, hs2]; exact hscm) (by rw [ho2, hs2]; exact hscl)) (fun v s8 h8 => ?_) fun _ _ y => y
  · intro env henv
    rcases List.mem_cons.mp henv with rfl | henv
    · exact ⟨(by show ScopeKind.function ≠ ScopeKind.module; decide), L, oL, rfl, by simp, fun vs q => by rw [hLd] at q; cases q⟩
    · rw [List.mem_singleton.mp henv]
      exact ⟨hk1, Fa, oF, hf1, by simp, fun vs q => by rw [hFd] at q; cases q⟩
  · intro p hp
    rcases List.mem_cons.mp hp with rfl | hp
    · exact ⟨⟨oL, hLo, oL.slots, rfl⟩, H.above⟩
    · rw [List.mem_singleton.mp hp]
      exact ⟨(H.owns (Fa, isF oF) (.head _)).1, (H.owns (Fa, isF oF) (.head _)).2.2⟩
  · simp only [List.pairwise_cons, List.mem_singleton, List.not_mem_nil, false_imp_iff, implies_true, List.Pairwise.nil, and_true]
    rintro p rfl
    exact Ne.symm hLF
  obtain ⟨near8, keep8, frs8, res8⟩ := h8
  have H8 : St g2 L [(Str.ofString "self", .ref σ2.X)] [(Fa, isF oF)] s s8 := by
    refine ⟨?_, ?_, keep8, H.above, fun p hp => ⟨?_, (H.owns p hp).2⟩, H.apart⟩
    · obtain ⟨h1, t1, e1⟩ := H.near
      obtain ⟨h2, t2, e2⟩ := near8
      exact ⟨h2, t2, by rw [e2, e1]⟩
    · obtain ⟨o, ho, sl, e⟩ := frs8 (L, isF oL) (by simp)
      exact ⟨o, esL, epL, ho, by rw [e]; exact hLd, hLk, hLf⟩
    · rw [List.mem_singleton.mp hp]
      exact frs8 (Fa, isF oF) (by simp)
  clear H frs8 near8 keep8
  have hvs : ∀ a ∈ σ.vs, ∃ o, g2.get? a = some o := by
    intro a ha
    refine x2'.vs_in ?_
    rw [h2e]
    rcases mem_vs.mp ha with e | e | e | e | ⟨p, hp, e⟩
    · exact mem_vs.mpr (.inl e)
    · exact mem_vs.mpr (.inr (.inl e))
    · exact mem_vs.mpr (.inr (.inr (.inl e)))
    · exact mem_vs.mpr (.inr (.inr (.inr (.inl e))))
    · rw [hr] at hp; cases hp
  have old : ∀ a, g2.get? a = none → a ≠ Fa → s.heap.get? a = none := fun a h1 h2 => by
    cases q : s.heap.get? a with
    | none => rfl
    | some o =>
      by_cases hv : a ∈ σ.vs
      · obtain ⟨o', e'⟩ := hvs a hv; rw [h1] at e'; cases e'
      · have := kg2 _ _ (kgs a o hv h2 q); rw [h1] at this; cases this
  have prep : ∀ s', (∃ m', St g2 L m' [(Fa, isF oF)] s s') → PrepR prog w s σ Fa { σ with rd := some (D, rdy σ) } s' := by
    rintro s' ⟨m', H'⟩
    refine ⟨H'.near, fun b o h1 h2 e => H'.keep b o (kg2 b o (kgs b o h1 h2 e)), fun o e => ?_, ?_, fun a ha => ?_⟩
    · obtain ⟨⟨o', ho', sl, e'⟩, _⟩ := H'.owns (Fa, isF oF) (.head _)
      rw [hFo] at e; cases e
      exact ⟨sl, by rw [ho', e']⟩
    · rw [← h2e]; exact x2'.keeps H'.keep
    · rw [← h2e] at ha
      rcases hv2 a ha with h | h
      · exact .inl h
      · rw [h]; exact .inr hDs
  -- if cycle
  rcases res8 with ⟨rfl, fin, htp, hall⟩ | ⟨Dc, cs, rfl, hcl, hcn, hcz, hring, hDc0, hDcf⟩
  · refine s_loc H8 ?_
    intro s9 H
    with_reducible refine x_if ?_
    refine t_name ?_
    refine n_loc H.ns rfl ?_
    refine (show wpAny _ _ (truthy .none) _ _ _ from wpAny_pure ?_)
    refine ite_f rfl ?_
    refine x_nil (x_nil (hQ _ _ ⟨rfl, ⟨D, prep _ ⟨_, H⟩⟩, fin, ?_, ?_⟩))
    · rw [← hs2]; exact htp
    · rw [← ho2]; exact hall
  · have hDcL : Dc ≠ L := fun q => hDcf (L, isF oL) (by simp) q.symm
    have hDcF : Dc ≠ Fa := fun q => hDcf (Fa, isF oF) (by simp) q.symm
    have H9 := H8.adopt (a := Dc) (P := isL cs) (by obtain ⟨n, e⟩ := hcl; exact ⟨_, e, n, rfl⟩) hDcL hDc0 (fun p hp => by rw [List.mem_singleton.mp hp]; exact Ne.symm hDcF)
    refine s_loc H9 ?_
    intro s9 H
    with_reducible refine x_if ?_
    refine t_name ?_
    refine n_loc H.ns rfl ?_
    refine t_list (plain_list (H.lst (i := 0) rfl)) hcz ?_
    intro s10 k10
    replace H := (H.keeps k10).sub (own' := [(Fa, isF oF)]) (.cons _ (.refl _))
    have hne1 : (!cs.isEmpty) = true := by cases cs with
      | nil => exact absurd rfl hcn
      | cons _ _ => rfl
    refine ite_t (hne1) ?_
    refine x_raise106 (H.bs B2) (by k_is) Rm.hh ?_
    with_reducible refine i_cons ?_
    refine JoinedStr_one ?_
    refine k_str ?_
    intro t11 s11 k11
    with_reducible refine i_cons ?_
    refine n_loc (H.keeps k11).ns rfl ?_
    with_reducible refine i_nil ?_
    refine ⟨(by show 2 ≤ sizeLine; decide), k11, ?_⟩
    replace H := H.keeps k11
    intro h' e hm
    obtain ⟨te, hte, _, _⟩ := hm.there
    have heL : e ≠ L := fun q => by obtain ⟨o, _, _, ho, _⟩ := H.ns; have := hm.new; rw [q, ho] at this; cases this
    have heg : g2.get? e = none := by
      cases q : g2.get? e with
      | none => rfl
      | some o => have := H.keep _ _ q; rw [hm.new] at this; cases this
    have heo : ∀ p ∈ [(Fa, isF oF)], p.1 ≠ e := fun p hp q => by
      obtain ⟨⟨o, ho, _⟩, _⟩ := H.owns p hp
      rw [q, hm.new] at ho; cases ho
    have H' : St g2 L _ [(Fa, isF oF)] s { s11 with heap := h' } := H.keeps ⟨⟨h', s11.toks, rfl⟩, hm.keeps⟩
    unfold leaving
    refine wpAny_bind (noted_new H' (X := .ref 106) ?_ hfr1 rfl (by show ScopeKind.function ≠ ScopeKind.module; decide) ⟨_, _, hte, rfl, rfl, rfl⟩ heL heg heo ?_)
    · intro env henv
      rw [List.mem_singleton.mp henv]
      exact ⟨hk1, Fa, oF, hf1, by simp, fun vs q => by rw [hFd] at q; cases q⟩
    intro s12 H hT
    refine hE _ _ ⟨e, rfl, ⟨D, prep _ ⟨_, H⟩⟩, ?_, old e heg (fun q => heo (Fa, isF oF) (.head _) q.symm), ?_⟩
    · rw [← ho2, ← hs2]; exact hring
    · obtain ⟨oe, vs, T, oT, ts, t1, t2, t3, t4, t5, t6, t7, t8, t9, t10, t11⟩ := hT
      exact ⟨oe, vs, T, oT, ts, t1, t2, t3, t4, t5, t6, t7, t8, old T t10 (fun q => t11 (Fa, isF oF) (.head _) q.symm)⟩
end
end Mine
end

-- M4
section
open PySem PySem.W PyProof.Rows PySem.Calls
set_option Elab.async false
set_option linter.unusedVariables false
set_option linter.unusedSectionVars false
set_option linter.unusedSimpArgs false
namespace Mine
theorem decrs_at (D : List Nat) : ∀ q : NR, ∀ i, (D.foldl decr q).1 i = q.1 i - (D.count i : Int) := by
  induction D with
  | nil => intro q i; simp
  | cons d r ih =>
    intro q i
    rw [List.foldl_cons, ih, List.count_cons]
    unfold decr
    by_cases h : i = d
    · subst h; simp; omega
    · have : (d == i) = false := by simp; exact fun e => h e.symm
      simp [h, this]
theorem decrs_rd (D : List Nat) : ∀ q : NR, q.2.Nodup → (∀ i ∈ q.2, q.1 i ≤ 0) → (∀ i, 0 < D.count i → (D.count i : Int) ≤ q.1 i) →
    (D.foldl decr q).2.Nodup ∧ ∀ i, i ∈ (D.foldl decr q).2 ↔ i ∈ q.2 ∨ (0 < D.count i ∧ q.1 i = (D.count i : Int)) := by
  induction D with
  | nil => intro q h1 h2 h3; exact ⟨h1, fun i => by simp⟩
  | cons d r ih =>
    intro q h1 h2 h3
    have hd : (1 : Int) ≤ q.1 d := by
      have := h3 d (by rw [List.count_cons_self]; omega)
      rw [List.count_cons_self] at this; push_cast at this; omega
    have hdq : d ∉ q.2 := fun hm => by have := h2 d hm; omega
    have e1 : ∀ i, (decr q d).1 i = if i = d then q.1 d - 1 else q.1 i := fun i => rfl
    have e2 : (decr q d).2 = if q.1 d - 1 = 0 then q.2 ++ [d] else q.2 := rfl
    have hnd : (decr q d).2.Nodup := by
      rw [e2]; split
      · exact List.nodup_append.mpr ⟨h1, by simp, fun a ha b hb => by rw [List.mem_singleton.mp hb]; exact fun e => hdq (e ▸ ha)⟩
      · exact h1
    have hnp : ∀ i ∈ (decr q d).2, (decr q d).1 i ≤ 0 := by
      intro i hi
      rw [e1]
      rw [e2] at hi
      by_cases hid : i = d
      · subst hid
        rw [if_pos rfl]
        split at hi
        · omega
        · exact absurd hi hdq
      · rw [if_neg hid]
        split at hi
        · rcases List.mem_append.mp hi with h | h
          · exact h2 i h
          · exact absurd (List.mem_singleton.mp h) hid
        · exact h2 i hi
    have hcn : ∀ i, 0 < r.count i → (r.count i : Int) ≤ (decr q d).1 i := by
      intro i hi
      rw [e1]
      have h4 := h3 i
      by_cases hid : i = d
      · subst hid
        rw [List.count_cons_self] at h4
        have := h4 (by omega)
        push_cast at this
        rw [if_pos rfl]; omega
      · rw [if_neg hid]
        have hb : (d == i) = false := by simp; exact fun e => hid e.symm
        rw [List.count_cons, hb] at h4
        simpa using h4 (by simpa using hi)
    obtain ⟨k1, k2⟩ := ih (decr q d) hnd hnp hcn
    refine ⟨k1, fun i => ?_⟩
    rw [List.foldl_cons, k2 i, e1, e2]
    by_cases hid : i = d
    · subst hid
      rw [List.count_cons_self, if_pos rfl]
      by_cases hz : q.1 i - 1 = 0
      · rw [if_pos hz]
        have hr0 : r.count i = 0 := by
          rcases Nat.eq_zero_or_pos (r.count i) with h | h
          · exact h
          · have := hcn i h; rw [e1, if_pos rfl] at this; omega
        simp only [List.mem_append, List.mem_singleton, or_true, true_or, true_iff]
        right
        rw [hr0]
        refine ⟨by omega, ?_⟩
        push_cast; omega
      · rw [if_neg hz]
        push_cast
        constructor
        · rintro (h | ⟨h, h'⟩)
          · exact absurd h hdq
          · exact .inr ⟨by omega, by omega⟩
        · rintro (h | ⟨h, h'⟩)
          · exact .inl h
          · refine .inr ⟨?_, by omega⟩
            rcases Nat.eq_zero_or_pos (r.count i) with h0 | h0
            · rw [h0] at h'; omega
            · exact h0
    · have hb : (d == i) = false := by simp; exact fun e => hid e.symm
      rw [List.count_cons, hb, if_neg hid]
      simp only [Bool.false_eq_true, if_false, Nat.add_zero]
      split
      · simp [hid]
      · rfl
theorem finA_all (G : Nat → List Nat) : ∀ (ks : List Nat) (q : NR), ks.Nodup → (∀ k ∈ ks, (ks.flatMap G).count k = 0) → q.2.Nodup → (∀ i ∈ q.2, q.1 i ≤ 0) → (∀ i, 0 < (ks.flatMap G).count i → ((ks.flatMap G).count i : Int) ≤ q.1 i) →
    (∀ i, (finA G q ks).1 i = if i ∈ ks then -2 else q.1 i - ((ks.flatMap G).count i : Int)) ∧ (finA G q ks).2.Nodup ∧ ∀ i, i ∈ (finA G q ks).2 ↔ i ∈ q.2 ∨ (0 < (ks.flatMap G).count i ∧ q.1 i = ((ks.flatMap G).count i : Int))
  | [], q, _, _, h1, _, _ => ⟨fun i => by simp [finA], h1, fun i => by simp [finA]⟩
  | k :: r, q, hn, hk, h1, h2, h3 => by
    obtain ⟨hkr, hnr⟩ := List.nodup_cons.mp hn
    have cnt : ∀ i, ((k :: r).flatMap G).count i = (G k).count i + (r.flatMap G).count i := fun i => by rw [List.flatMap_cons, List.count_append]
    have hk0 := hk k (.head _)
    rw [cnt] at hk0
    obtain ⟨q0, hq0⟩ : ∃ q0 : NR, q0 = ((fun i => if i = k then -2 else q.1 i), q.2) := ⟨_, rfl⟩
    have e0 : ∀ i, q0.1 i = if i = k then -2 else q.1 i := fun i => by rw [hq0]
    have e02 : q0.2 = q.2 := by rw [hq0]
    have c3 : ∀ i, 0 < (G k).count i → ((G k).count i : Int) ≤ q0.1 i := by
      intro i hi
      have : i ≠ k := fun e => by subst e; omega
      rw [e0, if_neg this]
      have := h3 i (by rw [cnt]; omega)
      rw [cnt] at this; push_cast at this; omega
    have c2 : ∀ i ∈ q0.2, q0.1 i ≤ 0 := by
      intro i hi
      rw [e0]
      split
      · omega
      · exact h2 i (e02 ▸ hi)
    obtain ⟨a1, a2⟩ := decrs_rd (G k) q0 (e02 ▸ h1) c2 c3
    have a0 := decrs_at (G k) q0
    have ef : fin1 G q k = (G k).foldl decr q0 := by rw [hq0]; rfl
    obtain ⟨q1, hq1⟩ : ∃ q1 : NR, q1 = (G k).foldl decr q0 := ⟨_, rfl⟩
    rw [← hq1] at a0 a1 a2
    have b2 : ∀ i ∈ q1.2, q1.1 i ≤ 0 := by
      intro i hi
      rw [a0]
      rcases (a2 i).mp hi with h | h
      · have := c2 i h; omega
      · omega
    have b3 : ∀ i, 0 < (r.flatMap G).count i → ((r.flatMap G).count i : Int) ≤ q1.1 i := by
      intro i hi
      have : i ≠ k := fun e => by subst e; omega
      rw [a0, e0, if_neg this]
      have := h3 i (by rw [cnt]; omega)
      rw [cnt] at this; push_cast at this; omega
    obtain ⟨z1, z2, z3⟩ := finA_all G r q1 hnr (fun k' hk' => by have := hk k' (.tail _ hk'); rw [cnt] at this; omega) a1 b2 b3
    have eA : finA G q (k :: r) = finA G q1 r := by
      unfold finA
      rw [List.foldl_cons, ef, ← hq1]
    rw [eA]
    refine ⟨fun i => ?_, z2, fun i => ?_⟩
    · rw [z1 i, a0, e0, cnt]
      by_cases hik : i = k
      · subst hik
        rw [if_neg hkr, if_pos rfl, if_pos (by simp)]
        have : (G i).count i = 0 := by omega
        have h' : (r.flatMap G).count i = 0 := by omega
        rw [this, h']; rfl
      · rw [if_neg hik]
        by_cases hir : i ∈ r
        · rw [if_pos hir, if_pos (by simp [hir])]
        · rw [if_neg hir, if_neg (by simp [hik, hir])]
          push_cast; omega
    · rw [z3 i, a2 i, a0, e0, cnt, e02]
      by_cases hik : i = k
      · subst hik
        have g1 : (G i).count i = 0 := by omega
        have g2 : (r.flatMap G).count i = 0 := by omega
        rw [g1, g2]
        simp
      · rw [if_neg hik]
        push_cast
        constructor
        · rintro ((h | ⟨h, h'⟩) | ⟨h, h'⟩)
          · exact .inl h
          · refine .inr ⟨by omega, ?_⟩
            rcases Nat.eq_zero_or_pos ((r.flatMap G).count i) with h0 | h0
            · rw [h0]; push_cast; omega
            · have := b3 i h0; rw [a0, e0, if_neg hik] at this; omega
          · exact .inr ⟨by omega, by omega⟩
        · rintro (h | ⟨h, h'⟩)
          · exact .inl (.inl h)
          · rcases Nat.eq_zero_or_pos ((r.flatMap G).count i) with h0 | h0
            · exact .inl (.inr ⟨by omega, by rw [h0] at h'; push_cast at h'; omega⟩)
            · exact .inr ⟨h0, by omega⟩
end Mine
end

-- M5
section
open PySem PySem.W PyProof.Rows PySem.Calls
set_option Elab.async false
set_option linter.unusedVariables false
set_option linter.unusedSectionVars false
set_option linter.unusedSimpArgs false
namespace Mine
theorem countP_split (xs : List Nat) (p q s : Nat → Bool) (h : ∀ x, s x = (p x || q x)) (hd : ∀ x, ¬ (p x = true ∧ q x = true)) : xs.countP s = xs.countP p + xs.countP q := by
  induction xs with
  | nil => simp
  | cons x r ih =>
    rw [List.countP_cons, List.countP_cons, List.countP_cons, ih, h]
    have := hd x
    cases hp : p x <;> cases hq : q x <;> simp_all <;> omega
theorem countP_mem (xs : List Nat) : ∀ l : List Nat, l.Nodup → (l.map fun k => xs.count k).sum = xs.countP fun p => decide (p ∈ l)
  | [], _ => by
    symm
    rw [List.map_nil, List.sum_nil, List.countP_eq_zero]
    intro a _; simp
  | k :: l, h => by
    obtain ⟨hk, hl⟩ := List.nodup_cons.mp h
    rw [List.map_cons, List.sum_cons, countP_mem xs l hl]
    rw [countP_split xs (fun p => p == k) (fun p => decide (p ∈ l)) (fun p => decide (p ∈ k :: l)) (fun x => by
      by_cases hx : x = k
      · simp [hx]
      · simp [hx]) (fun x => by
      simp only [beq_iff_eq, decide_eq_true_eq]
      rintro ⟨rfl, h'⟩; exact hk h')]
    rfl
section
variable {tb : List (List Part)} {G : Nat → List Nat} (hV : ∀ k < 5, ∀ j ∈ nee tb k, j < 5) (hG : ∀ j i, (G j).count i = if i < 5 then (nee tb i).count j else 0)
include hG
theorem mem_G {i j : Nat} : i ∈ G j ↔ i < 5 ∧ j ∈ nee tb i := by
  rw [← List.count_pos_iff, hG]
  split
  · rename_i h; simp [h, List.count_pos_iff]
  · rename_i h; simp [h]
include hV
theorem topo_six {fin : List Nat} (ht0 : Topo G fin) (hall : ∀ k < 5, k ∈ fin) : ∀ n k, k < 5 → fin.length - fin.idxOf k ≤ n → ht tb k < 6
  | 0, k, hk, hn => by
    have := List.idxOf_lt_length_of_mem (hall k hk)
    omega
  | n + 1, k, hk, hn => by
    refine Nat.lt_of_le_of_ne (ht_six k) fun h6 => ?_
    obtain ⟨j, hj, _, hj6⟩ := ht_pred hV hk (by omega)
    have hj5 := hV k hk j hj
    have hjf := hall j hj5
    have hlt : fin.idxOf k < fin.idxOf j := by
      have hi := List.idxOf_lt_length_of_mem hjf
      have e : fin = fin.take (fin.idxOf j) ++ j :: fin.drop (fin.idxOf j + 1) := by
        conv => lhs; rw [← List.take_append_drop (fin.idxOf j) fin, List.drop_eq_getElem_cons hi]
        rw [List.getElem_idxOf]
      have hkm := ht0 _ j _ e k ((mem_G hG).mpr ⟨hk, hj⟩)
      obtain ⟨m, hm, em⟩ := List.getElem_of_mem hkm
      rw [List.length_take] at hm
      have : fin.idxOf k ≤ m := by
        rw [List.getElem_take] at em
        refine Nat.le_of_not_lt fun hlt => ?_
        have := List.not_of_lt_findIdx (p := (· == k)) (xs := fin) (i := m) hlt
        simp [em] at this
      omega
    have hik := List.idxOf_lt_length_of_mem hjf
    exact absurd (hj6 h6) (Nat.ne_of_lt (topo_six ht0 hall n j hj5 (Nat.sub_le_iff_le_add.mpr (Nat.le_trans (Nat.sub_le_iff_le_add.mp hn) (by rw [Nat.add_assoc, Nat.add_comm 1]; exact Nat.add_le_add_left hlt _)))))
theorem pl_lt {a b : Nat} (h : Pl G a b) : b < 5 → ht tb b < 6 → ht tb a < ht tb b ∧ a < 5 := by
  induction h with
  | one e =>
    intro hb h6
    obtain ⟨h1, h2⟩ := (mem_G hG).mp e
    exact ⟨ht_lt hV h1 h2 h6, hV _ h1 _ h2⟩
  | more _ e ih =>
    intro hc h6
    obtain ⟨h1, h2⟩ := (mem_G hG).mp e
    have h3 := ht_lt hV h1 h2 h6
    have h4 := ih (hV _ h1 _ h2) (by omega)
    exact ⟨by omega, h4.2⟩
theorem ring_six {k : Nat} (h : Pl G k k) (hk : k < 5) : ht tb k = 6 := by
  refine Nat.le_antisymm (ht_six k) (Nat.le_of_not_lt fun h6 => ?_)
  have := (pl_lt hV hG h hk h6).1
  omega
structure Rnd (tb : List (List Part)) (r : Nat) (np : Nat → Int) (l : List Nat) : Prop where
  nd : l.Nodup
  mem : ∀ k, k ∈ l ↔ k < 5 ∧ ht tb k = r + 1 ∧ ht tb k < 6
  np : ∀ k < 5, np k = if ht tb k ≤ r then (-2 : Int) else (((nee tb k).countP fun p => decide (r < ht tb p) : Nat) : Int)
omit hG in
theorem Rnd.start {np : Nat → Int} {l : List Nat} (hl : l.Nodup) (hm : ∀ k, k ∈ l ↔ k < 5 ∧ np k = 0) (hnp : ∀ k < 5, np k = (nee tb k).length) : Rnd tb 0 np l := by
  have h1 : ∀ k < 5, (nee tb k).length = 0 ↔ ht tb k = 1 := by
    intro k hk
    have hp := ht_pos (tb := tb) k
    constructor
    · intro h
      have : nee tb k = [] := List.eq_nil_of_length_eq_zero h
      have := (ht_le hV hk (m := 0)).mpr (by rw [this]; simp)
      omega
    · intro h
      have h2 := (ht_le hV hk (m := 0)).mp (by omega)
      cases e : nee tb k with
      | nil => rfl
      | cons j r =>
        have h3 := h2 j (by rw [e]; simp)
        have := ht_pos (tb := tb) j
        omega
  refine ⟨hl, fun k => ?_, fun k hk => ?_⟩
  · rw [hm]
    constructor
    · rintro ⟨hk, h⟩
      rw [hnp k hk] at h
      have := (h1 k hk).mp (by omega)
      exact ⟨hk, by omega, by omega⟩
    · rintro ⟨hk, h, _⟩
      have := (h1 k hk).mpr (by omega)
      exact ⟨hk, by rw [hnp k hk]; omega⟩
  · have hp := ht_pos (tb := tb) k
    rw [if_neg (by omega), hnp k hk]
    congr 1
    symm
    rw [List.countP_eq_length]
    intro p _
    have := ht_pos (tb := tb) p
    simp only [decide_eq_true_eq]; omega
theorem cnt_D {l : List Nat} (hl : l.Nodup) (i : Nat) : (l.flatMap G).count i = if i < 5 then (nee tb i).countP (fun p => decide (p ∈ l)) else 0 := by
  rw [List.count_flatMap]
  by_cases hi : i < 5
  · rw [if_pos hi, ← countP_mem _ _ hl]
    congr 1
    refine List.map_congr_left fun k _ => ?_
    show List.count i (G k) = _
    rw [hG, if_pos hi]
  · rw [if_neg hi]
    have : (l.map (List.count i ∘ G)) = l.map fun _ => 0 := List.map_congr_left fun k _ => by show List.count i (G k) = 0; rw [hG, if_neg hi]
    rw [this]
    induction l with
    | nil => rfl
    | cons a r ih =>
      rw [List.map_cons, List.sum_cons, ih (List.nodup_cons.mp hl).2 (List.map_congr_left fun k _ => by show List.count i (G k) = 0; rw [hG, if_neg hi])]
theorem Rnd.step {r : Nat} {np : Nat → Int} {l : List Nat} (R : Rnd tb r np l) (hr : r + 1 < 6) :
    Rnd tb (r + 1) (finA G ((fun j => if j ∈ l then -1 else np j), []) l).1 (finA G ((fun j => if j ∈ l then -1 else np j), []) l).2 ∧
    ∀ (i : Nat) k, l[i]? = some k → (finA G ((fun j => if j ∈ l then -1 else np j), []) (l.take i)).1 k = -1 := by
  have hm1 : ∀ p, p < 5 → (p ∈ l ↔ ht tb p = r + 1) := fun p hp => by rw [R.mem]; constructor <;> (intro h; omega)
  have cnt : ∀ i < 5, (l.flatMap G).count i = (nee tb i).countP fun p => decide (ht tb p = r + 1) := by
    intro i hi
    rw [cnt_D hV hG R.nd, if_pos hi]
    refine List.countP_congr fun p hp => ?_
    have := hm1 p (hV i hi p hp)
    simp only [decide_eq_true_eq]; exact this
  have c0 : ∀ i < 5, ht tb i ≤ r + 1 → (l.flatMap G).count i = 0 := by
    intro i hi h
    rw [cnt i hi, List.countP_eq_zero]
    intro p hp
    have := ht_lt hV hi hp (by omega)
    simp only [decide_eq_true_eq]; omega
  have cge : ∀ i, ¬ i < 5 → (l.flatMap G).count i = 0 := fun i hi => by rw [cnt_D hV hG R.nd, if_neg hi]
  have pos : ∀ i, 0 < (l.flatMap G).count i → i < 5 ∧ r + 1 < ht tb i := fun i h => by
    have hi5 : i < 5 := Classical.byContradiction fun h' => Nat.ne_of_gt h (cge i h')
    exact ⟨hi5, Nat.lt_of_not_le fun h' => Nat.ne_of_gt h (c0 i hi5 h')⟩
  have big : ∀ i < 5, r + 1 < ht tb i → np i = ((l.flatMap G).count i : Int) + ((nee tb i).countP fun p => decide (r + 1 < ht tb p) : Nat) := by
    intro i hi h
    rw [R.np i hi, if_neg (by omega), cnt i hi]
    rw [countP_split (nee tb i) (fun p => decide (ht tb p = r + 1)) (fun p => decide (r + 1 < ht tb p)) (fun p => decide (r < ht tb p)) (fun x => by
      by_cases h1 : ht tb x = r + 1
      · simp [h1]
      · by_cases h2 : r + 1 < ht tb x
        · simp [h2]; omega
        · simp [h1, h2]; omega) (fun x => by simp; omega)]
    push_cast; rfl
  have nl : ∀ i < 5, r + 1 < ht tb i → i ∉ l := fun i hi h hm => by have := (R.mem i).mp hm; omega
  have F := finA_all G l ((fun j => if j ∈ l then -1 else np j), []) R.nd (fun k hk => by
      have := (R.mem k).mp hk
      exact c0 k this.1 (by omega)) (by simp) (by simp) (fun i hi => by
      obtain ⟨hi5, hgt⟩ := pos i hi
      show _ ≤ if i ∈ l then _ else _
      rw [if_neg (nl i hi5 hgt), big i hi5 hgt]
      omega)
  obtain ⟨f1, f2, f3⟩ := F
  refine ⟨⟨f2, fun i => ?_, fun i hi => ?_⟩, fun m k hk => ?_⟩
  · rw [f3 i]
    simp only [List.not_mem_nil, false_or]
    constructor
    · rintro ⟨h1, h2⟩
      obtain ⟨hi5, hgt⟩ := pos i h1
      rw [if_neg (nl i hi5 hgt), big i hi5 hgt] at h2
      have hz : (nee tb i).countP (fun p => decide (r + 1 < ht tb p)) = 0 := by omega
      rw [List.countP_eq_zero] at hz
      rw [cnt i hi5, List.countP_pos_iff] at h1
      obtain ⟨p, hp, hpe⟩ := h1
      have hpe' : ht tb p = r + 1 := by simpa using hpe
      have hle := (ht_le hV hi5 (m := r + 1)).mpr fun j hj => by
        have := hz j hj
        simp only [decide_eq_true_eq] at this
        omega
      have hge := ht_need hV hi5 hp
      refine ⟨hi5, by omega, ?_⟩
      refine Nat.lt_of_le_of_ne (ht_six i) fun h6 => ?_
      obtain ⟨j, hj, _, hj6⟩ := ht_pred hV hi5 (by omega)
      have := hz j hj
      simp only [decide_eq_true_eq] at this
      have := hj6 h6
      omega
    · rintro ⟨hi5, h1, h2⟩
      have hgt : r + 1 < ht tb i := by omega
      rw [if_neg (nl i hi5 hgt), big i hi5 hgt]
      obtain ⟨j, hj, hj1, _⟩ := ht_pred hV hi5 (by omega)
      have hj2 := hj1 h2
      refine ⟨by rw [cnt i hi5, List.countP_pos_iff]; exact ⟨j, hj, by simp; omega⟩, ?_⟩
      have hz : (nee tb i).countP (fun p => decide (r + 1 < ht tb p)) = 0 := by
        rw [List.countP_eq_zero]
        intro p hp
        have := ht_lt hV hi5 hp h2
        simp only [decide_eq_true_eq]; omega
      rw [hz]; simp
  · rw [f1 i]
    by_cases hil : i ∈ l
    · rw [if_pos hil]
      have := (R.mem i).mp hil
      rw [if_pos (by omega)]
    · rw [if_neg hil]
      show (if i ∈ l then _ else _) - _ = _
      rw [if_neg hil]
      by_cases hgt : r + 1 < ht tb i
      · rw [if_neg (by omega), big i hi hgt]; omega
      · rw [if_pos (by omega), c0 i hi (by omega), R.np i hi]
        have : ht tb i ≠ r + 1 := fun e => hil ((R.mem i).mpr ⟨hi, e, by omega⟩)
        rw [if_pos (by omega)]; rfl
  · have hkl : k ∈ l := List.mem_of_getElem? hk
    have hk5 := (R.mem k).mp hkl
    have sub : (l.take m).Sublist l := List.take_sublist m l
    have cz : ∀ i, ((l.take m).flatMap G).count i ≤ (l.flatMap G).count i := fun i => by
      conv => rhs; rw [← List.take_append_drop m l, List.flatMap_append, List.count_append]
      omega
    have F := finA_all G (l.take m) ((fun j => if j ∈ l then -1 else np j), []) (R.nd.sublist sub) (fun k' hk' => by
        have := (R.mem k').mp (sub.subset hk')
        have h1 := c0 k' this.1 (by omega)
        have := cz k'
        omega) (by simp) (by simp) (fun i hi => by
        have hcz := cz i
        obtain ⟨hi5, hgt⟩ := pos i (Nat.lt_of_lt_of_le hi hcz)
        show _ ≤ if i ∈ l then _ else _
        rw [if_neg (nl i hi5 hgt), big i hi5 hgt]
        omega)
    rw [F.1 k, if_neg]
    · show (if k ∈ l then _ else _) - _ = _
      rw [if_pos hkl]
      have := c0 k hk5.1 (by omega)
      have := cz k
      have e : ((l.take m).flatMap G).count k = 0 := by omega
      rw [e]; rfl
    · intro hm
      obtain ⟨hml, em⟩ := List.getElem?_eq_some_iff.mp hk
      obtain ⟨n, hn, en⟩ := List.getElem_of_mem hm
      rw [List.getElem_take] at en
      rw [List.length_take] at hn
      have hnn := List.pairwise_iff_getElem.mp R.nd n m (by omega) hml (by omega)
      exact hnn (en.trans em.symm)
theorem Rnd.top {r : Nat} {np : Nat → Int} {l : List Nat} (R : Rnd tb r np l) (hl : l = []) : ∀ k < 5, ht tb k < 6 → ht tb k ≤ r := by
  have no : ∀ k < 5, ht tb k < 6 → ht tb k ≠ r + 1 := fun k hk h6 e => by
    have := (R.mem k).mpr ⟨hk, e, h6⟩
    rw [hl] at this; cases this
  have : ∀ n k, k < 5 → ht tb k < 6 → ht tb k = r + 1 + n → False := by
    intro n
    induction n with
    | zero => intro k hk h6 e; exact no k hk h6 (by omega)
    | succ n ih =>
      intro k hk h6 e
      obtain ⟨j, hj, h1, _⟩ := ht_pred hV hk (by omega)
      have := h1 h6
      exact ih j (hV k hk j hj) (by omega) (by omega)
  intro k hk h6
  refine Nat.le_of_not_lt fun h => this (ht tb k - (r + 1)) k hk h6 (by omega)
end
end Mine
end

-- L1
section
open PySem PySem.W PyProof.Rows PySem.Calls
set_option Elab.async false
set_option maxRecDepth 100000
set_option linter.unusedVariables false
set_option linter.unusedSimpArgs false
namespace Mine
section
variable {prog : Program} {w : World} {A : Around} {E : Value → Shared → Prop} {s : Shared} {env : Env} {σ : Sg}
theorem at_bound {f : Addr} {name : Str} {expr : Bool} {Q : Value → Shared → Prop} (B : Bs w s.heap) (x : Sor prog w s.heap σ)
    (hga : findIn (Mine.hd.heap_39 w.params) (.ref 188) "__getattribute__" = some (some (.builtin "object.__getattribute__"))) (hgt : findIn (Mine.hd.heap_39 w.params) (.ref 188) "__getattr__" = some none)
    (hh : hasDictIn (Mine.hd.heap_39 w.params) 188 = true) (ha : findIn (Mine.hd.heap_39 w.params) (.ref 188) name = some (some (.ref f))) (hg : specialIn (Mine.hd.heap_39 w.params) (.ref f) "__get__" = some (some (.builtin "function.__get__")))
    (ht : takesIn (Mine.hd.heap_39 w.params) (.ref f) = some false) (hf : typeIn (Mine.hd.heap_39 w.params) (.ref f) = some (.type "function"))
    (h : ∀ q s', s.heap.get? q = none → Kp s s' → s'.heap.get? q = some (methodObj (.ref f) (.ref σ.X)) → Q (.ref q) s')
    (hc : copiedNames.contains name = false := by decide +kernel) (hw : name ∉ names4 := by decide) : wpAny (model prog w) A (getAttr (.ref σ.X) name expr) Q E s := by
  obtain ⟨mA, ⟨o, es, ep, ho, hd, hk, hu, hff⟩, hin, _⟩ := x.d
  have hnone : mA name = none := by
    cases q : mA name with
    | none => rfl
    | some v => exact absurd (hin name (by rw [q]; simp)) hw
  have hl : lookIn name o = some none := by
    unfold lookIn
    rw [hd]
    have h1 : es.toList.find? (·.key.isStr name) = none := by
      have := hff name
      rw [hnone] at this
      unfold nsFind findBy at this
      rw [← Array.find?_toList] at this
      exact Option.map_eq_none_iff.mp this
    simp only [h1]
    have h2 : es.toList.any (·.refKey) = false := by
      rw [List.any_eq_false]
      intro e he
      obtain ⟨y, t, hy⟩ := hk e (Array.mem_toList_iff.mp he)
      unfold DictEntry.refKey
      rw [hy]; simp
    rw [h2]; rfl
  have I : InstAt s.heap σ.X (instObj 188 σ.dX) 188 (some o) := ⟨x.x, rfl, rfl, ho⟩
  refine get_bind B.X I hga (findObj_fn hh ha hg ht hc hl) hgt (wpAny_call (fn_get (s := { s with toks := s.toks + 1 }) B.X hf (handed_on rfl ?_)))
  exact h _ _ (fresh_size _ (Nat.le_refl _)) ((Kp.tok s (s.toks + 1)).trans (Kp.push _ _ _)) (Heap.get?_push_size _ rfl)
theorem m_star {o : Expr} {name : Str} {apos pos : Pos} {args : List Expr} {Q : Value → Shared → Prop}
    (h : wpAny (model prog w) A (eval o env) (fun ov s₁ => wpAny (model prog w) A (getAttr ov name true) (fun f s₂ => wpAny (model prog w) A (callWith pos f [] (backTo pos (starEach args env)) []) Q E s₂) E s₁) E s)
    (hb : ∀ whole, attributeBase o name env whole = whole := by intro _; kernel_rfl)
    (hst : (starEach args env).all (fun x => !x.1) = false := by rfl) :
    wpAny (model prog w) A (eval (.Call (.Attribute o name apos) args [] pos) env) Q E s := by
  rw [arm_eval_Call, hb]
  have hf : methodCallForm (args.length + ([] : List Keyword).length) (backTo pos (starEach args env)) (backToKw pos (keywordEach [] env)) = false := by
    unfold methodCallForm
    have e1 : ((backTo pos (starEach args env)).all fun x => !x.1) = false := by
      unfold backTo
      rw [List.all_map]
      exact hst
    simp only [e1, Bool.false_and]
  refine wpAny_bind (wpAny_mono h (fun ov s₁ h₁ => wpAny_bind (wpAny_standAt ?_)) fun _ _ y => y)
  unfold methodCall
  rw [hf]
  simp only [calleeOf, Bool.false_eq_true, if_false, methodCallPos, Bool.not_false, Bool.true_or, if_true]
  refine wpAny_bind (wpAny_holding (wpAny_bind (wpAny_mono h₁ (fun f s₂ h₂ => ?_) fun _ _ y => y)))
  exact wpAny_pure (wpAny_bind (wpAny_pure h₂))
theorem star_one {f : Addr} {q : Addr} {self : Value} {e : Expr} {p pos : Pos} {Q : Value → Shared → Prop} (hf : fnIn (Mine.hd.heap_39 w.params) f = true)
    (h : wpAny (model prog w) A (eval e env) (fun v s₁ => StarOf (model prog w) A E v (fun vs s₂ => MethP (Mine.hd.heap_39 w.params) q f self s₂.heap ∧ wpAny (model prog w) A (call (.ref q) vs) Q E s₂) s₁) E s) :
    wpAny (model prog w) A (callWith pos (.ref q) [] (backTo pos (starEach [.Starred e p] env)) []) Q E s := by
  have he : starEach [.Starred e p] env = [(true, eval e env)] := rfl
  rw [he]
  exact ks_call (P := MethP (Mine.hd.heap_39 w.params) q f self) rfl (fun h X => keeps_M hf h X) (ks_lone h)
theorem star_two {f : Addr} {q : Addr} {self : Value} {e0 e : Expr} {p pos : Pos} {Q : Value → Shared → Prop} (hf : fnIn (Mine.hd.heap_39 w.params) f = true) (h0 : isStarred e0 = false)
    (h : wpAny (model prog w) A (eval e0 env) (fun v0 s₀ => wpAny (model prog w) A (eval e env) (fun v s₁ => StarOf (model prog w) A E v (fun vs s₂ => MethP (Mine.hd.heap_39 w.params) q f self s₂.heap ∧ wpAny (model prog w) A (call (.ref q) (v0 :: vs)) Q E s₂) s₁) E s₀) E s) :
    wpAny (model prog w) A (callWith pos (.ref q) [] (backTo pos (starEach [e0, .Starred e p] env)) []) Q E s := by
  have he : starEach [e0, .Starred e p] env = (false, eval e0 env) :: [(true, eval e env)] := by rw [star_cons h0]; rfl
  rw [he]
  refine ks_call (P := MethP (Mine.hd.heap_39 w.params) q f self) rfl (fun h X => keeps_M hf h X) (evalArgs_plain (spliced_cons ?_))
  refine wpAny_mono h (fun v0 s₀ h₀ => ks_spliced (wpAny_mono h₀ (fun v s₁ h₁ => ?_) fun _ _ y => y)) fun _ _ y => y
  unfold StarOf at h₁ ⊢
  refine wpAny_mono h₁ (fun b s₂ h₂ => ⟨h₂.1, wpAny_mono h₂.2 (fun vs s₃ h₃ => spliced_nil ?_) fun _ _ y => y⟩) fun _ _ y => y
  refine ⟨h₃.1, ?_⟩
  simpa using h₃.2
theorem star_of {a : Addr} {o : Obj} {T : String} {vs : List Value} {n : Nat} {Q : List Value → Shared → Prop} (hT : T = "list" ∨ T = "tuple") (ho : s.heap.get? a = some o) (hc : o.cls = .type T) (hd : o.data = .seq vs.toArray n) (hz : vs.length ≤ 1000)
    (h : ∀ s', Kp s s' → Q vs s') : StarOf (model prog w) A E (.ref a) Q s := by
  have hT' : s.TypeIs (.ref a) T := ⟨o, ho, hc⟩
  have z : wpAny (model prog w) A (collect (.ref a)) Q E s := by
    refine wpAny_collect_seq a hT ho hc hd (fun h' hk => ?_) (by have : 1000 ≤ sizeLine := by decide
                                                                 simp only [List.size_toArray]; omega)
    exact h _ ⟨⟨h', s.toks, rfl⟩, hk⟩
  unfold StarOf notIterableAtAll
  rcases hT with rfl | rfl
  · exact wpAny_bind (wpAny_specialOf hT' PySem.F.slot_list_iter.lookup (wpAny_pure ⟨rfl, z⟩))
  · exact wpAny_bind (wpAny_specialOf hT' PySem.F.slot_tuple_iter.lookup (wpAny_pure ⟨rfl, z⟩))
theorem sorted_t {a : Addr} {vs : List Value} {ns : List Int} {Q : Value → Shared → Prop} (ho : s.heap.get? a = some { cls := .type "tuple", data := .seq vs.toArray }) (hI : IntsAre vs ns) (h64 : vs.length < 64)
    (h : ∀ D s' us ms, s.heap.get? D = none → Kp s s' → s'.heap.IsList D us.toArray → IntsAre us ms → ms.Perm ns → ms.Pairwise (· ≤ ·) → Q (.ref D) s') : wpAny (model prog w) A (call (.builtin "sorted") [.ref a]) Q E s := by
  refine Calls.call_function_entry kind_sorted plain_sorted entry_sorted (args_sorted1 _) ?_
  unfold Builtin.«sorted»
  refine wpAny_bind (m := checkCount "sorted" 1 1 _) (wpAny_pure ?_)
  refine wpAny_bind (wpAny_collect_seq a (.inr rfl) ho rfl rfl (fun h1 k1 => ?_) (by have : 1000 ≤ sizeLine := by decide
                                                                                     simp only [List.size_toArray]; omega))
  refine wpAny_bind (wpAny_newList ?_)
  have hoL : (h1.push (seqObj "list" vs.toArray 0)).get? h1.objs.size = some (seqObj "list" vs.toArray 0) := Heap.get?_push_size _ rfl
  refine wpAny_bind (wpAny_holding (wpAny_call_entry slot_list_sort (s := { s with heap := h1.push (seqObj "list" vs.toArray 0) }) ⟨_, hoL, rfl⟩ entry_list_sort (list_sort_tree hoL hI h64 fun out ns' a1 a2 a3 => ⟨_, rfl, ?_⟩) (args_list_sort _)))
  refine wpAny_pure ⟨_, rfl, ?_⟩
  obtain ⟨e, he⟩ := sortedHeap_at (out := out) hoL
  have fresh : s.heap.get? h1.objs.size = none := by
    cases q : s.heap.get? h1.objs.size with
    | none => rfl
    | some o => exact absurd (Heap.lt_size (k1 _ _ q)) (Nat.lt_irrefl _)
  refine h _ _ out.toList ns' fresh ⟨⟨_, s.toks, rfl⟩, fun b o q => ?_⟩ ⟨_, he, rfl, e, by simp⟩ a1 a2 a3
  have hlt : b < h1.objs.size := Heap.lt_size (k1 b o q)
  show (sortedHeap (h1.push (seqObj "list" vs.toArray 0)) h1.objs.size vs out).get? b = some o
  rw [sortedHeap_old (Nat.ne_of_lt hlt) (by rw [Heap.size_push]; exact Nat.lt_succ_of_lt hlt)]
  exact Heap.get?_push_of_some _ (k1 b o q)
theorem max_l {l : Addr} {vs : List Value} {ns : List Int} {Q : Value → Shared → Prop} (hh : A.handled = none) (hl : s.heap.IsList l vs.toArray) (hi : IntsAre vs ns) (hne : 0 < ns.length)
    (h : ∀ s' m t, Kp s s' → m ∈ ns → (∀ a ∈ ns, a ≤ m) → Q (.int m t) s') : wpAny (model prog w) A (call (.builtin "max") [.ref l]) Q E s := by
  obtain ⟨xs, e⟩ := hi.allInts.items
  have hns : ns = xs.toList.map (·.1) := by
    rw [← hi.numsOf, ← nums_intItems, ← e]
  have hsz : 0 < xs.size := by
    have h3 := hne; rw [hns, List.length_map, Array.length_toList] at h3; exact h3
  rw [e] at hl
  refine max_intList hh hl hsz fun v h' tk hv hk => ?_
  obtain ⟨t, rfl⟩ := intItems_at hv
  obtain ⟨h1, h2⟩ := argBest_gt (numAt xs) (xs.size - 1)
  refine h _ _ t ⟨⟨h', tk, rfl⟩, hk⟩ ?_ fun a ha => ?_
  · rw [hns, numAt_eq]; exact getD_mem (by rw [List.length_map, Array.length_toList]; omega)
  · rw [hns] at ha
    obtain ⟨j, hj, rfl⟩ := mem_getD ha
    rw [List.length_map, Array.length_toList] at hj
    rw [← numAt_eq]; exact h2 j (by omega)
end
end Mine
end

-- L2
section
open PySem PySem.W PyProof.Rows PySem.Calls
set_option Elab.async false
set_option maxRecDepth 100000
set_option linter.unusedVariables false
set_option linter.unusedSimpArgs false
namespace Mine
section
variable {prog : Program} {w : World} {A : Around} {E : Value → Shared → Prop} {env : Env} {R : Result → Shared → Prop} {s : Shared}
theorem cloopL {elt iter target : Expr} {scope : Scope} {pos : Pos} {I D B : Addr} {fp wr : List Addr} {n : Nat} {P : Nat → Value → Prop} {S : Nat → Heap → Prop} {cenv : Env} {Bnd : Value → Heap → Prop} {Any : Heap → Prop}
    (W : Walks prog w A I fp wr n P S) (Rr : Nat → Addr → Heap → Prop) (hR : ∀ i a h h', Rr i a h → (∀ o, h.get? a = some o → h'.get? a = some o) → Rr i a h') (K : Binder prog w A target cenv B Bnd Any)
    (hex : ∀ i h, S i h → ∀ b ∈ fp, ∃ o, h.get? b = some o) (hBe : ∀ h, Any h → ∃ o, h.get? B = some o)
    (hDB : D ≠ B) (hDf : D ∉ fp) (hBf : B ∉ fp) (hst : S 0 s.heap) (hacc : s.heap.PlainList D #[]) (hany : Any s.heap)
    (turn : ∀ i v s₃ E', i < n → P i v → Bnd v s₃.heap → (∀ b o, b ≠ B → b ∉ wr → b ≠ D → s.heap.get? b = some o → s₃.heap.get? b = some o) →
      wpAny (model prog w) A (eval elt cenv) (fun y s₅ => Kp s₃ s₅ ∧ ∃ a, y = .ref a ∧ s₃.heap.get? a = none ∧ Rr i a s₅.heap) E' s₃)
    (fin : ∀ h' tk (as : List Addr), as.length = n → (∀ j a, as[j]? = some a → Rr j a h' ∧ a ≠ B) → Any h' → h'.PlainList D (as.map Value.ref).toArray → (∀ b o, b ≠ B → b ∉ wr → b ≠ D → s.heap.get? b = some o → h'.get? b = some o) → R (.ok .next) { s with heap := h', toks := tk })
    (hsz : n ≤ sizeLine) (ht : ∀ v, letOwnedTupleGo target (.ref I) v = pure () := by intro _; rfl) :
    codeAny (model prog w) A (.compLoop (.ListComp elt [⟨target, iter, [], 0⟩] scope pos) 0 (.ref I) (.ref D) cenv) R s := by
  refine codeAny_compLoop_tests
    (fun k s' => ∃ h' tk i as, s' = { s with heap := h', toks := tk } ∧ S i h' ∧ h'.PlainList D (as.map Value.ref).toArray ∧ as.length = i ∧ Any h' ∧ (∀ (j : Nat) (a : Addr), as[j]? = some a → Rr j a h' ∧ a ≠ B ∧ a ≠ D ∧ a ∉ fp) ∧ i ≤ n ∧ k = n + 1 - i ∧
      (∀ b o, b ≠ B → b ∉ wr → b ≠ D → s.heap.get? b = some o → h'.get? b = some o)) ?_ (n + 1)
    ⟨s.heap, s.toks, 0, [], rfl, hst, hacc, rfl, hany, by simp, Nat.zero_le _, rfl, fun _ _ _ _ _ e => e⟩ ht
  rintro k s' ⟨H, tk, i, as, rfl, hst', hacc', hlen, hany', hJ', hi, rfl, hk⟩
  have hBw : B ∉ wr := fun h => hBf (W.sub _ h)
  have hDw : D ∉ wr := fun h => hDf (W.sub _ h)
  by_cases hlt : i < n
  · refine W.item i _ _ _ hlt hst' fun v h₁ tk₁ hPv hst₁ hk₁ => ?_
    refine K.bind v _ _ _ (K.keepA _ _ hany' fun o e => hk₁ _ o hBw e) fun h₂ tk₂ hb₂ hs₂ => ?_
    have up₂ : ∀ b o, b ≠ B → b ∉ wr → H.get? b = some o → h₂.get? b = some o := fun b o hbB hbf e => hs₂.extBut b o hbB (hk₁ b o hbf e)
    have hst₂ : S (i + 1) h₂ := W.frame _ _ _ hst₁ fun b hb o e => hs₂.extBut b o (fun h => hBf (h ▸ hb)) e
    refine ct_nil ?_
    simp only [if_true]
    refine wpAny_mono (turn i v { s with heap := h₂, toks := tk₂ } _ hlt hPv hb₂ fun b o hbB hbf hbD e => up₂ b o hbB hbf (hk b o hbB hbf hbD e)) (fun y s₅ h₅ => ?_) fun _ _ e => e
    obtain ⟨kp₅, a, rfl, hfr, hRa⟩ := h₅
    obtain ⟨h₄', tk₄, rfl⟩ := kp₅.near
    have g₄ : ∀ b o, h₂.get? b = some o → h₄'.get? b = some o := kp₅.get
    have hacc₃ : h₂.PlainList D (as.map Value.ref).toArray := hacc'.at fun o e => up₂ D o hDB hDw e
    have any₃ : Any h₂ := K.any _ _ hb₂
    refine wpAny_list_append_plain (hsz := by simp only [List.size_toArray, List.length_map]; omega) (hacc₃.at fun o e => g₄ _ o e) fun h₅ hl₅ hs₅ => ?_
    have aB : a ≠ B := fun q => by obtain ⟨o, ho⟩ := hBe _ any₃; rw [← q] at ho; dsimp only at hfr; rw [hfr] at ho; cases ho
    have aD : a ≠ D := fun q => by obtain ⟨n', ho⟩ := hacc₃; rw [← q] at ho; dsimp only at hfr; rw [hfr] at ho; cases ho
    have af : a ∉ fp := fun q => by obtain ⟨o, ho⟩ := hex _ _ hst₂ a q; dsimp only at hfr; rw [hfr] at ho; cases ho
    refine ⟨n + 1 - (i + 1), by omega, h₅, tk₄, i + 1, as ++ [a], rfl, ?_, by simpa using hl₅, by simp [hlen], K.keepA _ _ any₃ fun o e => hs₅.extBut _ _ (Ne.symm hDB) (g₄ _ o e), ?_, hlt, rfl,
      fun b o hbB hbf hbD e => hs₅.extBut b o hbD (g₄ b o (up₂ b o hbB hbf (hk b o hbB hbf hbD e)))⟩
    · exact W.frame _ _ h₅ hst₂ fun b hb o e => hs₅.extBut b o (fun h => hDf (h ▸ hb)) (g₄ b o e)
    · intro j b hb
      rcases Nat.lt_or_ge j as.length with hj | hj
      · rw [List.getElem?_append_left hj] at hb
        obtain ⟨r1, r2, r3, r4⟩ := hJ' j b hb
        exact ⟨hR _ _ _ _ r1 fun o e => hs₅.extBut b o r3 (g₄ b o (up₂ b o r2 (fun q => r4 (W.sub _ q)) e)), r2, r3, r4⟩
      · rw [List.getElem?_append_right hj] at hb
        rcases Nat.eq_zero_or_pos (j - as.length) with z | z
        · rw [z] at hb
          simp at hb
          subst hb
          have : j = i := by omega
          subst this
          exact ⟨hR _ _ _ _ hRa fun o e => hs₅.extBut a o aD e, aB, aD, af⟩
        · rw [List.getElem?_eq_none (by simp; omega)] at hb; cases hb
  · have hin : i = n := by omega
    subst hin
    refine W.done _ _ _ hst' fun h₁ tk₁ hk₁ => ?_
    refine fin h₁ tk₁ as hlen (fun j a ha => ?_) (K.keepA _ _ hany' fun o e => hk₁ _ o hBw e) (hacc'.at fun o e => hk₁ _ o hDw e) fun b o hbB hbf hbD e => hk₁ b o hbf (hk b o hbB hbf hbD e)
    obtain ⟨r1, r2, r3, r4⟩ := hJ' j a ha
    exact ⟨hR _ _ _ _ r1 fun o e => hk₁ a o (fun q => r4 (W.sub _ q)) e, r2⟩
theorem lcL {elt iter : Expr} {x : Str} {px : Pos} {scope : Scope} {cl : List (Str × Addr)} {pos : Pos} {Q : Value → Shared → Prop} {n : Nat} {P : Nat → Value → Prop} (Rr : Nat → Addr → Heap → Prop)
    (hR : ∀ i a h h', Rr i a h → (∀ o, h.get? a = some o → h'.get? a = some o) → Rr i a h')
    (hclos : closureFor scope env = pure cl) {xs : List Addr}
    (h : wpAny (model prog w) A (eval iter env) (fun xv s₁ => wpAny (model prog w) A (pyIter xv) (fun it s₂ => SrcX prog w A xs n P s₁ it s₂ ∧ (∀ a ∈ xs, a < s₁.heap.objs.size) ∧
      (∀ C m i v s₃ E', i < n → P i v → s₃.heap.Ns C m → m x = some v → (∀ b o, s₁.heap.get? b = some o → s₃.heap.get? b = some o) →
        wpAny (model prog w) A (eval elt (compEnvC scope cl C env)) (fun y s₅ => Kp s₃ s₅ ∧ ∃ a, y = .ref a ∧ s₃.heap.get? a = none ∧ Rr i a s₅.heap) E' s₃) ∧
      (∀ D s' (as : List Addr), s₁.heap.get? D = none → Kp s₁ s' → s'.heap.PlainList D (as.map Value.ref).toArray → as.length = n → (∀ j a, as[j]? = some a → Rr j a s'.heap) → Q (.ref D) s')) E s₁) E s)
    (hsz : n ≤ sizeLine := by decide)
    (hcell : ∀ y ∈ scope.names, y.2 ≠ .cell := by decide) (hkind : scope.kind = .function := by rfl)
    (hnames : ∀ y ∈ scope.names, y.2 = .local → scope.names.lookup y.1 = some .local := by decide) (hx : scope.names.lookup x = some .local := by rfl)
    (hs : ∀ x, foldedSetIterable iter env x = pure x := by intro _; rfl) :
    wpAny (model prog w) A (eval (.ListComp elt [⟨.Name x px, iter, [], 0⟩] scope pos) env) Q E s := by
  rw [eval_ListComp]
  refine wpAny_comprehension_free (use := none) rfl hs hclos hkind hnames (wpAny_mono h (fun xv s₁ h₁ => wpAny_mono h₁ (fun it s₂ h₂ => ?_) fun _ _ e => e) fun _ _ e => e)
  obtain ⟨⟨I, fp, wr, S, rfl, W, hst, k₁₂, hw, hfpx, hex⟩, hxl, ht, hQ⟩ := h₂
  have hfp : ∀ b ∈ fp, b < s₂.heap.objs.size := fun b hb => let ⟨o, ho⟩ := hex _ _ hst b hb; Heap.lt_size ho
  refine wpAny_newObj_type (wpAny_newFunctionEnv hcell (by intro y hy; simp at hy) (fun h₁ hns₁ hsb₁ => ?_) hkind)
  dsimp only at hns₁ hsb₁ ⊢
  generalize hH2 : s₂.heap.push { cls := .type "list", dict := none, data := .seq ([] : List Value).toArray } = H2 at hns₁ hsb₁ ⊢
  have hC : H2.objs.size = s₂.heap.objs.size + 1 := by rw [← hH2, Heap.size_push]
  have hDC : s₂.heap.objs.size ≠ H2.objs.size := by omega
  have below : ∀ b, b < s₂.heap.objs.size → b ≠ H2.objs.size ∧ b ≠ s₂.heap.objs.size := fun b hb => ⟨by omega, by omega⟩
  have hDf : s₂.heap.objs.size ∉ fp := fun hm => Nat.lt_irrefl _ (hfp _ hm)
  have hCf : H2.objs.size ∉ fp := fun hm => by have h9 : (H2.objs.size : Nat) < s₂.heap.objs.size := hfp _ hm; omega
  have old : ∀ b o, s₂.heap.get? b = some o → h₁.get? b = some o := fun b o e => hsb₁.extBut b o (below b (Heap.lt_size e)).1 (Heap.get?_push_of_some _ (hH2 ▸ Heap.get?_push_of_some _ e))
  have hacc : h₁.PlainList s₂.heap.objs.size #[] := ⟨_, hsb₁.extBut _ _ hDC (Heap.get?_push_of_some _ (hH2 ▸ Heap.get?_push_size _ rfl))⟩
  have hst₁ : S 0 h₁ := W.frame _ _ _ hst fun b _ o e => old b o e
  have ko : ∀ b o, s₁.heap.get? b = some o → b ≠ H2.objs.size ∧ b ∉ wr ∧ b ≠ s₂.heap.objs.size ∧ h₁.get? b = some o := fun b o e =>
    ⟨(below b (Heap.lt_size (k₁₂.get _ _ e))).1, (fun hb => by rw [hw b hb] at e; cases e), (below b (Heap.lt_size (k₁₂.get _ _ e))).2, old b o (k₁₂.get _ _ e)⟩
  have loop : ∀ s₃ : Shared, s₃ = { s₂ with heap := h₁, toks := s₂.toks + ([] : List (Str × Value)).length } →
      codeAny (model prog w) A (.compLoop (.ListComp elt [⟨.Name x px, iter, [], 0⟩] scope pos) 0 (.ref I) (.ref s₂.heap.objs.size) (compEnvC scope cl H2.objs.size env))
        (compPost (model prog w) A E none Q (.ref s₂.heap.objs.size) H2.objs.size) s₃ := by
    rintro s₃ rfl
    refine cloopL (target := .Name x px) (cenv := compEnvC scope cl H2.objs.size env) W Rr hR (binder_loc (lookup_relabel_local hx) (by simp [compEnvC, relabel, hkind])) hex (fun h ⟨m, hn⟩ => let ⟨o, _, _, ho, _⟩ := hn; ⟨o, ho⟩) hDC hDf hCf hst₁ hacc ⟨_, hns₁⟩
      (fun i v s₃ E' hi hP hb hk => ?_) (fun h' tk as hln hRs ha hl hk => ?_) hsz
    · obtain ⟨m, hn, hm⟩ := hb
      exact ht _ m i v s₃ E' hi hP hn hm fun b o e => let ⟨a1, a2, a3, a4⟩ := ko b o e; hk b o a1 a2 a3 a4
    · obtain ⟨m, hn⟩ := ha
      refine ⟨m, hn, fun h'' hs'' => hQ _ _ as ?_ ?_ (hl.extBut hs''.extBut hDC) hln fun j a ha => ?_⟩
      · cases e : s₁.heap.get? s₂.heap.objs.size with
        | none => rfl
        | some o => exact absurd rfl (ko _ o e).2.2.1
      · obtain ⟨h2, t2, rfl⟩ := k₁₂.near
        exact ⟨⟨h'', tk, rfl⟩, fun b o e => let ⟨a1, a2, a3, a4⟩ := ko b o e; hs''.extBut b o a1 (hk b o a1 a2 a3 a4)⟩
      · exact hR _ _ _ _ (hRs j a ha).1 fun o e => hs''.extBut a o (hRs j a ha).2 e
  exact codeAny_compStart_list (loop _ rfl) (W.self 0 _ _ _ hst₁ (loop _ rfl))
end
end Mine
end

-- L2b
section
open PySem PySem.W PyProof.Rows PySem.Calls
set_option Elab.async false
set_option maxRecDepth 100000
set_option linter.unusedVariables false
set_option linter.unusedSimpArgs false
namespace Mine
section
variable {prog : Program} {w : World} {h h' : Heap} {σ σ' : Sg}
noncomputable def Sg.nrm (σ : Sg) : Sg := { σ with sc := fun j => SC σ j, fz := true }
theorem Sor.nrm (x : Sor prog w h σ) : Sor prog w h σ.nrm :=
  ⟨x.x, x.d, x.n, x.i, fun k hk => by
    have e : σ.nrm.sc k = σ.sc k := by show SC σ k = _; unfold SC; rw [if_pos (show k ∈ σ.ord from hk)]
    have := x.s k hk
    rw [← e] at this; exact this, x.r, x.dN, x.sS, x.rS, x.nd, x.lt, x.sy, x.xc⟩
theorem nrm_vs {a : Addr} (ha : a ∈ σ.nrm.vs) : a ∈ σ.vs := by
  rcases mem_vs.mp ha with e | e | e | ⟨k, hk, e1, e2⟩ | e
  · exact mem_vs.mpr (.inl e)
  · exact mem_vs.mpr (.inr (.inl e))
  · exact mem_vs.mpr (.inr (.inr (.inl e)))
  · cases e1
  · exact mem_vs.mpr (.inr (.inr (.inr (.inr e))))
theorem Sor.noCell (x : Sor prog w h σ) (k : ∀ b o, h.get? b = some o → (∀ v, o.data ≠ .cell v) → h'.get? b = some o) : Sor prog w h' σ := by
  have kL : ∀ {a l}, ListK h a l → ListK h' a l := fun hl => by
    obtain ⟨vs, ⟨n, e⟩, hi⟩ := hl
    exact ⟨vs, ⟨n, k _ _ e (fun v q => by cases q)⟩, hi⟩
  refine ⟨k _ _ x.x (fun v q => by cases q), ?_, ?_, fun j hj => ?_, fun j hj => kL (x.s j hj), fun p hp => kL (x.r p hp), x.dN, x.sS, x.rS, x.nd, x.lt, x.sy, x.xc⟩
  · obtain ⟨mA, ⟨o, es, ep, ho, hd, r⟩, q⟩ := x.d
    exact ⟨mA, ⟨o, es, ep, k _ _ ho (fun v q => by rw [hd] at q; cases q), hd, r⟩, q⟩
  · obtain ⟨o, es, ep, ho, hd, _⟩ := x.N_ob
    exact x.n.at fun o' e => by
      rw [ho] at e; cases e
      exact k _ _ ho (fun v q => by rw [hd] at q; cases q)
  · obtain ⟨dx, u1, u2, c, d⟩ := x.I_ob hj
    exact ⟨u1, u2, dx, k _ _ c (fun v q => by cases q), k _ _ d (fun v q => by cases q)⟩
end
section
variable {prog : Program} {w : World} {g : Heap} {L : Addr} {m : List (Str × Value)} {own : List (Addr × (Obj → Prop))} {s₀ s s' : Shared} {σ σ' : Sg}
theorem St.prep (H : St g L m own s₀ s) (G : Gd g L own σ) (P : PrepR prog w s σ L σ' s') : St g L m own s₀ s' ∧ Gd g L own σ' := by
  have H' : St g L m own s₀ s' := by
    refine ⟨?_, ?_, fun b o e => P.keep b o (fun q => ?_) (fun q => ?_) (H.keep b o e), H.above, fun p hp => ⟨?_, (H.owns p hp).2⟩, H.apart⟩
    · obtain ⟨h1, t1, e1⟩ := H.near
      obtain ⟨h2, t2, e2⟩ := P.near
      exact ⟨h2, t2, by rw [e2, e1]⟩
    · obtain ⟨o, es, ep, ho, hd, r⟩ := H.ns
      obtain ⟨sl, e⟩ := P.fr o ho
      exact ⟨_, es, ep, e, hd, r⟩
    · have := (G b q).1; rw [e] at this; cases this
    · have := H.above; rw [← q, e] at this; cases this
    · obtain ⟨⟨o, ho, hP⟩, hL, _⟩ := H.owns p hp
      exact ⟨o, P.keep _ o (fun q => (G _ q).2.2 p hp rfl) hL ho, hP⟩
  refine ⟨H', fun a ha => ?_⟩
  rcases P.nw a ha with q | q
  · exact G a q
  · refine ⟨?_, fun e => ?_, fun p hp e => ?_⟩
    · cases r : g.get? a with
      | none => rfl
      | some o => rw [H.keep _ _ r] at q; cases q
    · obtain ⟨o, _, _, ho, _⟩ := H.ns; rw [← e, q] at ho; cases ho
    · obtain ⟨⟨o, ho, _⟩, _⟩ := H.owns p hp; rw [e, q] at ho; cases ho
end
section
variable {prog : Program} {w : World} {A : Around} {E : Value → Shared → Prop} {env : Env} {s : Shared}
theorem x_seqC {t : Stmt} {rest : List Stmt} {Q : Flow → Shared → Prop} (C : Shared → Prop) (h : wpAny (model prog w) A (exec t env) (fun f s' => f = .next ∧ C s') E s) (k : ∀ s', C s' → wpAny (model prog w) A (execs rest env) Q E s') :
    wpAny (model prog w) A (execs (t :: rest) env) Q E s :=
  wpAny_execs_cons (wpAny_mono h (fun f s' hf => by obtain ⟨rfl, hc⟩ := hf; exact k _ hc) fun _ _ y => y)
variable {g : Heap} {L e : Addr} {m : List (Str × Value)} {own : List (Addr × (Obj → Prop))} {s₀ : Shared} {outer : List Env}
theorem caught_106 {b₀ : Stmt} {suite : List Stmt} {pos np : Pos} {rest : List ExceptHandler} {Q : Flow → Shared → Prop} (B : Bs w g) (hnm : nsIn (Mine.hd.heap_39 w.params) mainGlobals (Str.ofString "CycleError") = some (some (.ref 106)))
    (H : St g L m own s₀ s) (K : FrOk outer own) (hfr : A.frames = some (env :: outer)) (hf : env.frame = some L) (hk : env.scope.kind = .function)
    (hx : Trc s.heap e (.ref 106) (fun T => T ≠ L ∧ g.get? T = none ∧ ∀ p ∈ own, p.1 ≠ T)) (heL : e ≠ L) (heg : g.get? e = none) (heo : ∀ p ∈ own, p.1 ≠ e)
    (k : ∀ E' s', St g L m own s₀ s' → wpAny (model prog w) (A.mark (some (.ref e))) (execs (b₀ :: suite) env) Q E' s')
    (hg : env.globals = mainGlobals := by kernel_rfl) (hkx : env.kindOf (Str.ofString "CycleError") = some .globalImplicit := by kernel_rfl) :
    wpAny (model prog w) A (noteFrame (.ref e) env) (fun _ s₂ => wpAny (model prog w) A (setFlight (.ref e) none) (fun _ s₃ =>
      wpAny (model prog w) A (handleBy (.ref e) env (.ExceptHandler (some (.Name (Str.ofString "CycleError") np)) none (b₀ :: suite) pos :: rest)) Q E s₃) E s₂) E s := by
  refine noted_on H K hfr hf (by rw [hk]; decide) hx heL heg heo fun s' H' ht => ?_
  obtain ⟨oe, vs, T, oT, ts, t1, t2, t3, t4, t5, t6, t7, t8, t9, t10, t11⟩ := ht
  have hsz : 3 < ts.size := (Array.getElem?_eq_some_iff.mp t7).1
  refine wpAny_handleBy_cons (codeAny_handlers_test ?_) (by intro q; cases q)
  refine n_glob (H'.bs B) hnm ?_ hg hk hkx (by kernel_rfl)
  obtain ⟨nm, q, N, bs, sn, sub, col, dd, k0, k1, k2, k3, k5, hdct, ab, mN, hC, hN, hni⟩ := cls106 (H'.bs B)
  obtain ⟨hp, gg, d, tk, os⟩ := s'
  refine wpAny_excMatches_sub_self hC t1 t2 (by decide) (codeAny_handlers_suite ?_)
  refine wpAny_setFlight_none t1 t3 t4 t5 t6 hsz ?_
  exact k _ _ (H'.upd (tk := tk) (Heap.SameBut.update hp T (Obj.mapFields (·.setIfInBounds 3 Value.none))) t9 t10 t11)
end
theorem sc_count {tb : List (List Part)} {G : Nat → List Nat} (hV : ∀ k < 5, ∀ j ∈ nee tb k, j < 5) (hG : ∀ j, G j = [4, 2, 0, 3, 1].flatMap fun k => ((nee tb k).filter (· == j)).map fun _ => k) (j i : Nat) : (G j).count i = if i < 5 then (nee tb i).count j else 0 := by
  have one : ∀ k, (((nee tb k).filter (· == j)).map fun _ => k).count i = if k = i then (nee tb k).count j else 0 := by
    intro k
    by_cases h : k = i
    · subst h
      rw [if_pos rfl, List.count_eq_countP, List.countP_map, List.count_eq_countP, List.countP_eq_length_filter (p := (· == j)), List.countP_eq_length.mpr]
      intro a _; simp
    · rw [if_neg h, List.count_eq_zero]
      intro hm
      obtain ⟨_, _, e⟩ := List.mem_map.mp hm
      exact h e
  rw [hG]
  simp only [List.flatMap_cons, List.flatMap_nil, List.count_append, List.count_nil, one]
  match i with
  | 0 => simp
  | 1 => simp
  | 2 => simp
  | 3 => simp
  | 4 => simp
  | i + 5 =>
    have h4 : ¬ 4 = i + 5 := by omega
    have h2 : ¬ 2 = i + 5 := by omega
    have h0 : ¬ 0 = i + 5 := by omega
    have h3 : ¬ 3 = i + 5 := by omega
    have h1 : ¬ 1 = i + 5 := by omega
    have h5 : ¬ i + 5 < 5 := by omega
    simp [h4, h2, h0, h3, h1, h5]
end Mine
end

-- L2c
section
open PySem PySem.W PyProof.Rows PySem.Calls
set_option Elab.async false
set_option maxRecDepth 100000
set_option linter.unusedVariables false
set_option linter.unusedSimpArgs false
namespace Mine
section
variable {prog : Program} {w : World} {h h' : Heap} {σ σ' : Sg}
theorem Sor.noCF (x : Sor prog w h σ) (k : ∀ b o, h.get? b = some o → (∀ v, o.data ≠ .cell v) → (∀ v, o.data ≠ .fields v) → h'.get? b = some o) : Sor prog w h' σ := by
  have kL : ∀ {a l}, ListK h a l → ListK h' a l := fun hl => by
    obtain ⟨vs, ⟨n, e⟩, hi⟩ := hl
    exact ⟨vs, ⟨n, k _ _ e (fun v q => by cases q) (fun v q => by cases q)⟩, hi⟩
  refine ⟨k _ _ x.x (fun v q => by cases q) (fun v q => by cases q), ?_, ?_, fun j hj => ?_, fun j hj => kL (x.s j hj), fun p hp => kL (x.r p hp), x.dN, x.sS, x.rS, x.nd, x.lt, x.sy, x.xc⟩
  · obtain ⟨mA, ⟨o, es, ep, ho, hd, r⟩, q⟩ := x.d
    exact ⟨mA, ⟨o, es, ep, k _ _ ho (fun v q => by rw [hd] at q; cases q) (fun v q => by rw [hd] at q; cases q), hd, r⟩, q⟩
  · obtain ⟨o, es, ep, ho, hd, _⟩ := x.N_ob
    exact x.n.at fun o' e => by
      rw [ho] at e; cases e
      exact k _ _ ho (fun v q => by rw [hd] at q; cases q) (fun v q => by rw [hd] at q; cases q)
  · obtain ⟨dx, u1, u2, c, d⟩ := x.I_ob hj
    exact ⟨u1, u2, dx, k _ _ c (fun v q => by cases q) (fun v q => by cases q), k _ _ d (fun v q => by cases q) (fun v q => by cases q)⟩
end
section
variable {prog : Program} {w : World} {g : Heap} {L : Addr} {m : List (Str × Value)} {own : List (Addr × (Obj → Prop))} {s₀ s s' : Shared} {σ σ' : Sg}
theorem St.rebF (H : St g L m own s₀ s) (hc : ∀ p ∈ own, ∃ v, p.2 = isC v) (x : Sor prog w s.heap σ) (G : Gd g L own σ) (hm : ∃ y v, m.lookup y = some v) (hid : List Addr) (hf : ∀ a ∈ hid, g.get? a = none ∧ ∃ o vs, s.heap.get? a = some o ∧ o.data = .fields vs) :
    ∃ g', St g' L m own s₀ s ∧ (∀ b o, g.get? b = some o → g'.get? b = some o) ∧ Sor prog w g' σ ∧ ∀ a ∈ hid, g'.get? a = none := by
  have k3 : ∀ b o, s.heap.get? b = some o → b ≠ L → (∀ p ∈ own, p.1 ≠ b) → b ∉ hid → (hideAll s.heap (L :: (own.map (·.1) ++ hid))).get? b = some o := fun b o e h1 h2 h3 => hideAll_get _ e fun q => by
    rcases List.mem_cons.mp q with q | q
    · exact h1 q
    · rcases List.mem_append.mp q with q | q
      · obtain ⟨p, hp, e⟩ := List.mem_map.mp q
        exact h2 p hp e
      · exact h3 q
  refine ⟨hideAll s.heap (L :: (own.map (·.1) ++ hid)), ⟨H.near, H.ns, fun b o e => of_hideAll _ e, hideAll_none _ (.head _), fun p hp => ⟨(H.owns p hp).1, (H.owns p hp).2.1, hideAll_none _ (.tail _ (List.mem_append_left _ (List.mem_map_of_mem hp)))⟩, H.apart⟩, fun b o e => ?_, ?_, fun a ha => hideAll_none _ (.tail _ (List.mem_append_right _ ha))⟩
  · refine k3 b o (H.keep b o e) (fun q => ?_) (fun p hp q => ?_) fun q => ?_
    · have := H.above; rw [← q, e] at this; cases this
    · have := (H.owns p hp).2.2; rw [q, e] at this; cases this
    · have := (hf b q).1; rw [e] at this; cases this
  have x1 := x.hide H.ns hm (G _ (mem_vs.mpr (.inl rfl))).2.1 (G _ (mem_vs.mpr (.inr (.inl rfl)))).2.1
  refine x1.noCF fun b o e hd hd2 => k3 b o (of_hideAll _ e) (fun q => ?_) (fun p hp q => ?_) fun q => ?_
  · rw [q, hideAll_none _ (by simp)] at e; cases e
  · obtain ⟨⟨o', ho', hp'⟩, _⟩ := H.owns p hp
    obtain ⟨v, hv⟩ := hc p hp
    rw [hv] at hp'
    have e' := of_hideAll _ e
    rw [q, e'] at ho'; cases ho'
    exact hd v hp'
  · obtain ⟨_, o', vs, h1, h2⟩ := hf b q
    have e' := of_hideAll _ e
    rw [e'] at h1; cases h1
    exact hd2 vs h2
end
end Mine
end

-- L2d
section
open PySem PySem.W PyProof.Rows PySem.Calls
set_option Elab.async false
set_option maxRecDepth 100000
set_option linter.unusedVariables false
set_option linter.unusedSimpArgs false
namespace Mine
section
variable {prog : Program} {w : World} {A : Around} {E : Value → Shared → Prop} {s : Shared} {env : Env}
theorem ne_b {a b : Bool} {Q : Value → Shared → Prop} (h : Q (.bool (!(a == b))) s) : wpAny (model prog w) A (compareOp .NotEq (.bool a) (.bool b)) Q E s := SeqAt.RcNeAt.bool_bool a b prog w E Q h
theorem eq_s {a b : List Nat} {t u : Tok} {Q : Value → Shared → Prop} (h : Q (.bool (a == b)) s) : wpAny (model prog w) A (compareOp .Eq (.str (st a) t) (.str (st b) u)) Q E s := by
  refine PyProof.Rows.eq_str ?_
  have : (st a == st b) = (a == b) := by
    rw [Bool.eq_iff_iff, beq_iff_eq, beq_iff_eq]
    exact ⟨fun h => st_inj h, fun h => by rw [h]⟩
  rw [this]; exact h
end
theorem Gd.own {g : Heap} {L : Addr} {own own' : List (Addr × (Obj → Prop))} {σ : Sg} (G : Gd g L own σ) (h : own'.map (·.1) = own.map (·.1)) : Gd g L own' σ := by
  intro a ha
  refine ⟨(G a ha).1, (G a ha).2.1, fun p hp => ?_⟩
  have h1 : p.1 ∈ own.map (·.1) := by rw [← h]; exact List.mem_map_of_mem hp
  obtain ⟨q, hq, e⟩ := List.mem_map.mp h1
  rw [← e]; exact (G a ha).2.2 q hq
theorem s_cellX {prog : Program} {w : World} {A : Around} {E : Value → Shared → Prop} {s : Shared} {env : Env} {σ : Sg} {g : Heap} {L : Addr} {m : List (Str × Value)} {own : List (Addr × (Obj → Prop))} {s₀ : Shared} {x : Str} {v : Value} {c : Addr} {v₀ : Option Value} {i : Nat} {Q : Unit → Shared → Prop} (H : St g L m own s₀ s) (X : Sor prog w s.heap σ)
    (hc : env.cells.lookup x = some c) (hi : own[i]? = some (c, isC v₀))
    (h : ∀ s', St g L m (own.set i (c, isC (some v))) s₀ s' → Sor prog w s'.heap σ → Q () s')
    (hk : env.scope.kind = .function := by kernel_rfl) (hl : env.kindOf x = some .cell := by kernel_rfl) : wpAny (model prog w) A (storeName env x v) Q E s :=
  wpAny_storeName_cell hk hl hc (H.cell hi) (fun h' hc' hs => h _ (let ⟨o, ho, hd⟩ := hc'; H.set hi hs ⟨o, ho, hd⟩) (X.noCell fun b o e hd => hs.extBut b o (fun q => by
    obtain ⟨o', ho', hd'⟩ := H.cell hi
    rw [q, ho'] at e; cases e
    exact hd _ hd') e))
theorem hs_at {tb : List (List Part)} {ys : List Value} (iH : IntsAre ys (hsOf tb)) {i : Nat} (hi : i < 5) : ∃ t, ys[i]? = some (.int (ht tb i : Int) t) := by
  have hl : i < ys.length := by rw [iH.length]; simpa [hsOf] using hi
  obtain ⟨n, t, h1, h2⟩ := ints_get iH (List.getElem?_eq_getElem hl)
  refine ⟨t, ?_⟩
  rw [List.getElem?_eq_getElem hl, h2]
  unfold hsOf at h1
  rw [List.getElem?_map, List.getElem?_range hi] at h1
  cases h1; rfl
theorem ready_eq {tb : List (List Part)} {r : Nat} {np : Nat → Int} {l : List Nat} {ms : List Int} (R : Rnd tb r np l) (hr : r + 1 < 6) (hp : ms.Perm (nums l)) (hs : ms.Pairwise (· ≤ ·)) :
    ms = ((List.range 5).filter fun k => decide (ht tb k = r + 1)).map fun (k : Nat) => (k : Int) := by
  have e1 : l.Perm ((List.range 5).filter fun k => decide (ht tb k = r + 1)) := by
    rw [List.perm_ext_iff_of_nodup R.nd (List.nodup_range.filter _)]
    intro a
    rw [R.mem, List.mem_filter, List.mem_range, decide_eq_true_iff]
    constructor
    · intro h; omega
    · intro h; omega
  refine List.Perm.eq_of_pairwise (le := (· ≤ ·)) (fun a b _ _ h1 h2 => Int.le_antisymm h1 h2) hs ?_ (hp.trans (e1.map _))
  rw [List.pairwise_map]
  exact (List.pairwise_lt_range.filter _).imp fun h => by omega
theorem max_six {tb : List (List Part)} {m : Int} {b : Bool} (h1 : m ∈ hsOf tb) (h2 : ∀ a ∈ hsOf tb, a ≤ m) (hb : b = true ↔ ∃ k, k < 5 ∧ ht tb k = 6) : (m == 6) = b := by
  rw [Bool.eq_iff_iff, hb, beq_iff_eq]
  obtain ⟨k, hk, rfl⟩ := List.mem_map.mp h1
  rw [List.mem_range] at hk
  constructor
  · intro h; exact ⟨k, hk, by omega⟩
  · rintro ⟨j, hj, h6⟩
    have := h2 _ (List.mem_map.mpr ⟨j, List.mem_range.mpr hj, rfl⟩)
    have := ht_six (tb := tb) k
    omega
theorem max_top {tb : List (List Part)} {r : Nat} {m : Int} (ht5 : ∀ k < 5, ht tb k < 6 → ht tb k ≤ r) (hr : r = 0 ∨ ∃ k, k < 5 ∧ ht tb k = r) (h6 : r < 6)
    (h1 : m ∈ (0 : Int) :: ((List.range 5).filter fun k => decide (ht tb k < 6)).map fun (k : Nat) => (ht tb k : Int)) (h2 : ∀ a ∈ (0 : Int) :: ((List.range 5).filter fun k => decide (ht tb k < 6)).map fun (k : Nat) => (ht tb k : Int), a ≤ m) : m = (r : Int) := by
  have hm : m ≤ (r : Int) := by
    rcases List.mem_cons.mp h1 with rfl | h1
    · omega
    · obtain ⟨k, hk, rfl⟩ := List.mem_map.mp h1
      rw [List.mem_filter, List.mem_range, decide_eq_true_iff] at hk
      have := ht5 k hk.1 hk.2
      omega
  rcases hr with rfl | ⟨k, hk, e⟩
  · have := h2 0 (.head _); omega
  · have := h2 (ht tb k : Int) (.tail _ (List.mem_map.mpr ⟨k, by rw [List.mem_filter, List.mem_range, decide_eq_true_iff]; exact ⟨hk, by omega⟩, rfl⟩))
    omega
end Mine
end

-- L3
section
open PySem PySem.W PyProof.Rows PySem.Calls
set_option Elab.async false
set_option maxRecDepth 100000
set_option linter.unusedVariables false
set_option linter.unusedSimpArgs false
namespace Mine
noncomputable def Sq (h h' : Heap) : Prop := ∀ b o xs n, h.get? b = some o → o.data = .seq xs n → h'.get? b = some o
theorem Sq.list {h h' : Heap} {a : Addr} {vs : Array Value} (k : Sq h h') (x : h.IsList a vs) : h'.IsList a vs := let ⟨o, ho, hc, n, hd⟩ := x; ⟨o, k _ _ _ _ ho hd, hc, n, hd⟩
theorem Sq.tab {h h' : Heap} {a : Addr} {tb : List (List Part)} (k : Sq h h') (x : LTab h a tb) : LTab h' a tb := by
  obtain ⟨rs, h1, h2, h3⟩ := x
  refine ⟨rs, k.list h1, h2, fun i r ns e1 e2 => ?_⟩
  obtain ⟨vs, h4, h5⟩ := h3 i r ns e1 e2
  exact ⟨vs, k.list h4, h5⟩
theorem Sq.lli {h h' : Heap} {a : Addr} {nss : List (List Int)} (k : Sq h h') (x : LLI h a nss) : LLI h' a nss := by
  obtain ⟨rs, h1, h2, h3⟩ := x
  refine ⟨rs, k.list h1, h2, fun i r ns e1 e2 => ?_⟩
  obtain ⟨vs, h4, h5⟩ := h3 i r ns e1 e2
  exact ⟨vs, k.list h4, h5⟩
theorem St.sq {g : Heap} {L : Addr} {m : List (Str × Value)} {own : List (Addr × (Obj → Prop))} {s₀ s : Shared} (H : St g L m own s₀ s) (hc : ∀ p ∈ own, ∃ v, p.2 = isC v) :
    ∃ g', St g' L m own s₀ s ∧ (∀ b o, g.get? b = some o → g'.get? b = some o) ∧ Sq s.heap g' := by
  obtain ⟨g', H', kg, k3⟩ := H.reb
  refine ⟨g', H', kg, fun b o xs n e hd => k3 b o e (fun q => ?_) fun p hp q => ?_⟩
  · obtain ⟨oL, es, ep, eL, dL, _⟩ := H.ns
    rw [q, eL] at e; cases e; rw [dL] at hd; cases hd
  · obtain ⟨⟨o', ho', hp'⟩, _⟩ := H.owns p hp
    obtain ⟨v, hv⟩ := hc p hp
    rw [hv] at hp'
    rw [q, e] at ho'; cases ho'
    have hp'' : o.data = .cell v := hp'
    rw [hp''] at hd; cases hd
theorem cells3 {a b c : Addr} {u v x : Option Value} : ∀ p ∈ [(a, isC u), (b, isC v), (c, isC x)], ∃ v, p.2 = isC v := by
  intro p hp
  simp only [List.mem_cons, List.not_mem_nil, or_false] at hp
  rcases hp with rfl | rfl | rfl <;> exact ⟨_, rfl⟩
section
variable {prog : Program} {w : World} {A : Around} {s : Shared} {R : Result → Shared → Prop} {f : Addr} {oc : Value} {od : Option Addr} {osl : Array (Option Value)} {name qual : Str} {params : Arguments} {body : List Stmt} {scope : Scope}
  {dV kV doc pm cdv ct : Value} {an : Option Addr}
theorem enterCF {vals : List Value} {binds : List (Str × Value)} (B : Bs w s.heap) (hroom : A.depth < recursionLimit)
    (ho : List.lookup f (Mine.hd.heap_39 w.params) = some ⟨oc, od, .func (fnOf name qual params body scope dV kV doc pm an cdv ct), osl⟩) (hcd : codeIn (Mine.hd.heap_39 w.params) cdv qual = true)
    (hbind : bindArgs (fnOf name qual params body scope dV kV doc pm an cdv ct) ⟨vals, []⟩ = pure binds)
    (hkind : KindsOk scope (s.heap.objs.size + 1) binds)
    (h : ∀ s' A', Deep A A' → A'.frames = A.frames.map (envC qual scope s.heap.objs.size f cdv :: ·) → St s.heap s.heap.objs.size (bl (fun x => scope.names.lookup x) binds) (cellOwn (cellsFrom (s.heap.objs.size + 1) scope.names []) (bc (fun x => scope.names.lookup x) binds)) s s' →
      wpAny (model prog w) A' (execs body (envC qual scope s.heap.objs.size f cdv)) (fun fl s' => R (.ok (.ret (match fl with | .ret v => v | _ => .none))) s') (fun _ _ => False) s')
    (hdist : ((scope.names.filter fun p => p.2 == .cell).map (·.1)).reverse.Pairwise (· ≠ ·) := by decide)
    (hco : scope.isCoroutine = false := by rfl) (hgen : scope.isGenerator = false := by rfl) (hk : scope.kind = .function := by rfl) : codeAny (model prog w) A (.call (.ref f) ⟨vals, []⟩) R s :=
  enterC B hroom ho hcd hbind hkind (fun s' H => wpAny_mono (h s' _ ⟨rfl, rfl, rfl⟩ rfl H) (fun _ _ x => x) fun _ _ x => x.elim) hdist hco hgen hk
end
theorem boot_isi : bootBuiltins (Str.ofString "isinstance") = some (.builtin "isinstance") := by kernel_rfl
theorem boot_mx : bootBuiltins (Str.ofString "max") = some (.builtin "max") := by kernel_rfl
theorem boot_srt : bootBuiltins (Str.ofString "sorted") = some (.builtin "sorted") := by kernel_rfl
section
variable {prog : Program} {w : World} {A : Around} {E : Value → Shared → Prop} {env : Env} {s : Shared}
theorem x_pair {x y : Str} {px py tp pos : Pos} {kk : Nat} {value : Expr} {rest : List Stmt} {Q : Flow → Shared → Prop} (hh : A.handled = none)
    (h : wpAny (model prog w) A (eval value env) (fun v s₁ => ∃ a v1 v2, v = .ref a ∧ s₁.heap.get? a = some { cls := .type "tuple", data := .seq #[v1, v2] } ∧ ∀ s', Kp s₁ s' →
      wpAny (model prog w) A (storeName env x v1) (fun _ s₂ => wpAny (model prog w) A (storeName env y v2) (fun _ s₃ => wpAny (model prog w) A (execs rest env) Q E s₃) E s₂) E s') E s)
    (hs : swapsWithSole [.Tuple [.Name x px, .Name y py] kk tp] value pos.line env = pure false := by rfl)
    (hw : swappedStores [.Tuple [.Name x px, .Name y py] kk tp] value env = pure none := by rfl) :
    wpAny (model prog w) A (execs (.Assign [.Tuple [.Name x px, .Name y py] kk tp] value pos :: rest) env) Q E s := by
  refine wpAny_execs_cons (Assign_Tuple (wpAny_mono h (fun v s₁ h₁ => ?_) fun _ _ y => y) hs hw)
  obtain ⟨a, v1, v2, rfl, ha, hq⟩ := h₁
  refine wpAny_assign_Tuple (items := #[v1, v2]) hh ⟨_, ha, rfl, 0, rfl⟩ rfl rfl fun h' he => ?_
  have kp : Kp s₁ { s₁ with heap := h' } := ⟨⟨h', s₁.toks, rfl⟩, fun b o e => he b o (Nat.ne_of_lt (Heap.lt_size e)) e⟩
  show wpAny _ _ (assignInOrder [assign (.Name x px) env, assign (.Name y py) env] [v1, v2]) _ _ _
  unfold assignInOrder
  refine wpAny_bind (wpAny_holding (wpAny_assign_Name (wpAny_mono (hq _ kp) (fun _ s₂ h₂ => ?_) fun _ _ y => y)))
  unfold assignInOrder
  refine wpAny_bind (wpAny_holding (wpAny_assign_Name (wpAny_mono h₂ (fun _ s₃ h₃ => ?_) fun _ _ y => y)))
  unfold assignInOrder
  exact wpAny_pure h₃
end
theorem SrcY.mono {prog : Program} {w : World} {A : Around} {xs : List Addr} {n : Nat} {P P' : Nat → Value → Prop} {s₁ s₂ : Shared} {it : Value} (h : SrcY prog w A xs n P s₁ it s₂) (hp : ∀ i v, P i v → P' i v) : SrcY prog w A xs n P' s₁ it s₂ := by
  obtain ⟨I, fp, wr, S, e, W, r⟩ := h
  exact ⟨I, fp, wr, S, e, ⟨W.sub, W.frame, fun i s Q E hi hs hq => W.item i s Q E hi hs fun v h' tk hv => hq v h' tk (hp i v hv), W.done, W.self⟩, r⟩
section
variable {prog : Program} {w : World} {A : Around} {E : Value → Shared → Prop} {s : Shared}
theorem table_k {aX : Addr} {vx : List Value} {nx : List Int} {Q : Value → Shared → Prop} (Rm : Room A 3 20) (B : Bs w s.heap) (hX : s.heap.IsList aX vx.toArray) (iX : IntsAre vx nx) (hzX : vx.length ≤ 63)
    (h : ∀ s' aR aS aT sg tb vs, Kp s s' → s'.heap.get? aR = some { cls := .type "tuple", data := .seq #[.ref aS, .ref aT] } → s'.heap.IsList aS vs.toArray → StrsAre vs (sg.map fun c => st [c]) → LTab s'.heap aT tb → Good sg tb → Q (.ref aR) s') :
    wpAny (model prog w) A (call (.ref 197) [.ref aX]) Q E s :=
  wpAny_mono (table_spec Rm B hX iX hzX) (fun v s' h2 => by obtain ⟨k2, aR, aS, aT, sg, tb, vS, rfl, hR, lS, iS, lT, GO⟩ := h2; exact h _ _ _ _ _ _ _ k2 hR lS iS lT GO) fun _ _ y => y
theorem text_k {aS aT aH : Addr} {sg : List Nat} {tb : List (List Part)} {hs : List Int} {r : Int} {tr : Tok} {Q : Value → Shared → Prop} (Rm : Room A 10 80) (B : Bs w s.heap) (Tb : Tabs s.heap aS aT aH sg tb hs) (hok : ∀ k < 5, hs.getD k 0 < 6 → okP tb hs r 5 (.ref k))
    (h : ∀ s' t', Kp s s' → Q (.str (st (txt sg tb hs r)) t') s') : wpAny (model prog w) A (call (.ref 212) [.ref aS, .ref aT, .ref aH, .int r tr]) Q E s :=
  wpAny_mono (text_spec Rm B Tb hok) (fun v s' h2 => by obtain ⟨k, t', rfl⟩ := h2; exact h _ _ k) fun _ _ y => y
theorem header_k {l : List Nat} {t : Tok} {Q : Value → Shared → Prop} (Rm : Room A 5 40) (B : Bs w s.heap) (hl : ∀ c ∈ l, c < 128 ∧ c ≠ 95) (hz0 : l.length ≤ 1300) (h : ∀ s' t', Kp s s' → Q (.str (st (scan l)) t') s') : wpAny (model prog w) A (call (.ref 72) [.str (st l) t]) Q E s :=
  wpAny_mono (header_spec Rm B hl hz0) (fun v s' h2 => by obtain ⟨k, t', rfl⟩ := h2; exact h _ _ k) fun _ _ y => y
theorem decode_k {l : List Nat} {t : Tok} {Q : Value → Shared → Prop} (Rm : Room A 5 40) (B : Bs w s.heap) (hv : Vis l) (hlast : l = [] ∨ l.getD (l.length - 1) 0 = 46) (hz0 : l.length ≤ 1300) (h : ∀ s' t', Kp s s' → Q (.str (st (scan l)) t') s') : wpAny (model prog w) A (call (.ref 58) [.str (st l) t]) Q E s :=
  wpAny_mono (decode_spec Rm B hv hlast hz0) (fun v s' h2 => by obtain ⟨k, t', rfl⟩ := h2; exact h _ _ k) fun _ _ y => y
theorem active_k {a : Addr} {l : List Nat} {σ : Sg} {Q : Value → Shared → Prop} (Rm : Room A 3 30) (B : Bs w s.heap) (x : Sor prog w s.heap σ) (hr : σ.rd = some (a, l)) (hz : l.length ≤ 1000) (h : ∀ s', Kp s s' → Q (.bool (decide (σ.fi < σ.po) || !l.isEmpty)) s') :
    wpAny (model prog w) A (call (.ref 157) [.ref σ.X]) Q E s := wpAny_mono (active_spec Rm B x hr hz) (fun v s' h2 => by obtain ⟨rfl, k⟩ := h2; exact h _ k) fun _ _ y => y
theorem ready_k {a : Addr} {l : List Nat} {σ : Sg} {Q : Value → Shared → Prop} (Rm : Room A 3 30) (B : Bs w (hideAll s.heap σ.vs)) (x : Sor prog w s.heap σ) (hr : σ.rd = some (a, l)) (hz : l.length ≤ 1000) (hl : ∀ k ∈ l, k ∈ σ.ord)
    (h : ∀ s' T vs, s.heap.get? T = none → s'.heap.get? T = some { cls := .type "tuple", data := .seq vs.toArray } → IntsAre vs (nums l) → T ∉ σ.vs → Aft prog w s σ { σ with np := fun j => if j ∈ l then -1 else σ.np j, rd := some (a, []), po := σ.po + (l.length : Int) } s' → Q (.ref T) s') :
    wpAny (model prog w) A (call (.ref 150) [.ref σ.X]) Q E s := wpAny_mono (ready_spec Rm B x hr hz hl) (fun v s' h2 => by obtain ⟨T, vr, rfl, h1, h2, h3, h4, h5⟩ := h2; exact h _ _ _ h1 h2 h3 h4 h5) fun _ _ y => y
noncomputable def LawR (s : Shared) : Result → Shared → Prop := fun r s' => r = .ok (.ret (.bool true)) ∧ Kp s s'
inductive FI (L aH aN aS aT : Addr) (tb : List (List Part)) (ks : List Nat) (i : Nat) (m : List (Str × Value)) (own : List (Addr × (Obj → Prop))) (σ : Sg) : Prop
  | mk (ow : own = [(L + 3, isC none), (L + 2, isC (some (.ref aH))), (L + 1, isC (some (.ref aN)))]) (so : m.lookup (Str.ofString "sorter") = some (.ref σ.X)) (si : m.lookup (Str.ofString "signs") = some (.ref aS)) (ta : m.lookup (Str.ofString "table") = some (.ref aT)) (rd : σ.rd = none) (po : σ.po = 0) (fi : σ.fi = 0) (fz : σ.fz = false) (mem : ∀ k ∈ ks.take i, k ∈ σ.ord) (np : ∀ j, NP σ j = if j ∈ ks.take i then ((nee tb j).length : Int) else 0) (sc : ∀ j, SC σ j = (ks.take i).flatMap fun k => ((nee tb k).filter (· == j)).map fun _ => k) (sl : ∀ j, (SC σ j).length ≤ 3 * i)
inductive TI (prog : Program) (w : World) (g : Heap) (L aH aN aS aT : Addr) (tb : List (List Part)) (s : Shared) (σ1 : Sg) (b : Bool) (D : Addr) (m : List (Str × Value)) (s' : Shared) : Prop
  | mk (H : St g L m [(L + 3, isC none), (L + 2, isC (some (.ref aH))), (L + 1, isC (some (.ref aN)))] s s') (x : Sor prog w s'.heap { σ1 with rd := some (D, rdy σ1) }) (G : Gd g L [(L + 3, isC none), (L + 2, isC (some (.ref aH))), (L + 1, isC (some (.ref aN)))] { σ1 with rd := some (D, rdy σ1) }) (ri : m.lookup (Str.ofString "ring") = some (.bool b)) (so : m.lookup (Str.ofString "sorter") = some (.ref σ1.X)) (si : m.lookup (Str.ofString "signs") = some (.ref aS)) (ta : m.lookup (Str.ofString "table") = some (.ref aT)) (b6 : b = true ↔ ∃ k, k < 5 ∧ ht tb k = 6)
inductive LI (prog : Program) (w : World) (g : Heap) (L aS aT aH aN : Addr) (sg : List Nat) (tb : List (List Part)) (s : Shared) (σ1 : Sg) (r : Nat) (D : Addr) (l : List Nat) (m : List (Str × Value)) (σ : Sg) (tr tt : Tok) (s' : Shared) : Prop
  | mk (r5 : r ≤ 5) (H : St g L m [(L + 3, isC (some (.int (r : Int) tr))), (L + 2, isC (some (.ref aH))), (L + 1, isC (some (.ref aN)))] s s') (x : Sor prog w s'.heap σ) (G : Gd g L [(L + 3, isC (some (.int (r : Int) tr))), (L + 2, isC (some (.ref aH))), (L + 1, isC (some (.ref aN)))] σ) (so : m.lookup (Str.ofString "sorter") = some (.ref σ.X)) (si : m.lookup (Str.ofString "signs") = some (.ref aS)) (ta : m.lookup (Str.ofString "table") = some (.ref aT)) (te : m.lookup (Str.ofString "text") = some (.str (st (txt sg tb (hsOf tb) (r : Int))) tt)) (rd : σ.rd = some (D, l)) (pf : σ.po = σ.fi) (fz : σ.fz = true) (sc : σ.sc = σ1.sc) (od : σ.ord = σ1.ord) (R : Rnd tb r σ.np l) (rk : r = 0 ∨ ∃ k, k < 5 ∧ ht tb k = r)
set_option maxHeartbeats 4000000 in
theorem law_code {aX : Addr} {vx : List Value} {nx : List Int} (hfr : A.frames = some []) (Rm : Room A 20 200) (B : Bs w s.heap) (hX : s.heap.IsList aX vx.toArray) (iX : IntsAre vx nx) (hzX : vx.length ≤ 63) :
    codeAny (model prog w) A (.call (.ref 217) ⟨[.ref aX], []⟩) (LawR s) s := by
  have hz : (fun (_ : PySem.W.OpenLaw × (Params → Frag)) => True) (PySem.Challenge.rw_of0070_01, Mine.hd.heap_39) := by (k_fill; trivial)
  refine enterCF B Rm.low (by k_is) (by k_is) rfl ?_ ?_
  · exact ⟨.inl rfl, trivial⟩
  intro s1 A1 DA hfr1 H
  rw [hfr] at hfr1
  replace Rm := Rm.deep DA (d' := 19) (u' := 197) (by decide) (by decide)
  clear DA
  have hsl : 1000 ≤ sizeLine := by decide
  replace H : St s.heap s.heap.objs.size [(Str.ofString "script", .ref aX)] [(s.heap.objs.size + 3, isC none), (s.heap.objs.size + 2, isC none), (s.heap.objs.size + 1, isC none)] s s1 := H
  generalize s.heap.objs.size = L at H hfr1 ⊢
  -- signs, table = _law_table(script)
  refine x_pair Rm.hh ?_ (by kernel_rfl) (by kernel_rfl)
  with_reducible refine c_fn (H.bs B) (by k_is) (by k_is) ?_
  with_reducible refine i_cons ?_
  refine n_loc H.ns rfl ?_
  with_reducible refine i_nil ?_
  refine ⟨H.bs B, ?_⟩
  refine table_k (Rm.le (by decide) (by decide)) (H.bs B) (hX.at fun o e => H.keep _ o e) iX hzX ?_
  intro s2 aR aS aT sg tb vS k2 hR lS iS lT GO
  replace H := H.keeps k2
  refine ⟨aR, .ref aS, .ref aT, rfl, hR, ?_⟩
  intro s3 k3
  replace H := H.keeps k3
  replace lS := lS.at fun o e => k3.get _ o e
  replace lT := lT.keeps k3.get
  obtain ⟨g1, H, kg1, q1⟩ := H.sq cells3
  have gS := q1.list lS
  have gT := q1.tab lT
  have B1 : Bs w g1 := B.keeps kg1
  clear lS lT q1 hR
  refine s_loc H ?_
  intro s4 H
  refine s_loc H ?_
  intro s5 H
  -- needs = [[..] for parts in table]
  with_reducible refine x_assign ?_ (by kernel_rfl)
  obtain ⟨rs, lT, lrs, hrs⟩ := id gT
  have lr5 : rs.length = 5 := lrs.trans GO.lT
  refine lcL (n := 5) (P := fun i v => (rs.map Value.ref)[i]? = some v) (fun i a h => ∃ us, h.IsList a us.toArray ∧ IntsAre us ((nssOf tb).getD i [])) ?_ rfl (xs := [aT]) ?_
  · rintro i a h h' ⟨us, h1, h2⟩ k
    exact ⟨us, h1.at k, h2⟩
  · refine n_loc H.ns rfl ?_
    have lT5 := lT.at fun o e => H.keep _ o e
    refine srcX_list Rm.hh lT5 ?_
    intro it s6 h6
    rw [List.length_map, lr5] at h6
    refine ⟨h6, ?_, ?_, ?_⟩
    · intro a ha
      rw [List.mem_singleton.mp ha]
      obtain ⟨o, ho, _⟩ := lT5
      exact Heap.lt_size ho
    · intro C m i v s7 E7 hi hP hn hm hk
      rw [List.getElem?_map] at hP
      obtain ⟨r, hr1, rfl⟩ := Option.map_eq_some_iff.mp hP
      have hti : i < tb.length := by rw [GO.lT]; exact hi
      obtain ⟨vp, lvp, ivp⟩ := hrs i r _ hr1 (List.getElem?_eq_getElem hti)
      have lvp7 : s7.heap.IsList r vp.toArray := lvp.at fun o e => hk _ o (H.keep _ o e)
      have hvl : vp.length = 3 := by rw [parts_len ivp]; exact three_of GO i _ (List.getElem?_eq_getElem hti)
      refine lc (n := vp.length) (P := fun j v => vp[j]? = some v) (fun j acc => IntsAre acc (((tb[i].take j).filterMap fun p => match p with | .ref i => some i | .lit _ => none).map fun (k : Nat) => (k : Int))) rfl ?_ .nil (by omega)
      refine n_loc hn hm ?_
      refine src_list Rm.hh lvp7 ?_
      intro it8 s8 h8
      refine ⟨h8, ?_, ?_⟩
      · intro C2 m2 j u acc s9 E9 hj hPu hJ hn2 hm2 hk2
        obtain ⟨p, hp1, hpv⟩ := parts_get ivp hPu
        have B9 : Bs w s9.heap := ((H.bs B1).keeps fun b o e => hk b o e).keeps fun b o e => hk2 b o (by simp) e
        have et : tb[i].take (j + 1) = tb[i].take j ++ [p] := by rw [List.take_add_one, hp1]; rfl
        refine ct_one (t_call ?_)
        with_reducible refine c_bi B9 (by k_is) boot_isi ?_
        with_reducible refine i_cons ?_
        refine n_loc hn2 hm2 ?_
        with_reducible refine i_cons ?_
        refine n_built B9 (by k_is) boot_int ?_
        with_reducible refine i_nil ?_
        cases p with
        | ref i' =>
          obtain ⟨tk, rfl⟩ := hpv
          refine PySem.IsiPair.int_int (tru_b ⟨Kp.same _, ?_⟩)
          refine ite_t rfl ?_
          refine n_loc hn2 hm2 ⟨Kp.same _, ?_⟩
          dsimp only
          rw [et, List.filterMap_append, List.map_append]
          exact ints_snoc hJ
        | lit c =>
          obtain ⟨tk, rfl⟩ := hpv
          refine PySem.IsiPair.str_int (tru_b ⟨Kp.tok _ _, ?_⟩)
          refine ite_f rfl ?_
          dsimp only
          rw [et, List.filterMap_append, List.map_append]
          simpa using hJ
      · intro D s9 ys hD k9 hl9 hJ
        refine ⟨k9, D, rfl, hD, ys, plain_list hl9, ?_⟩
        have e1 : tb[i].take vp.length = tb[i] := by rw [parts_len ivp]; simp
        rw [e1] at hJ
        have e2 : (nssOf tb).getD i [] = (tb[i].filterMap fun p => match p with | .ref i => some i | .lit _ => none).map fun (k : Nat) => (k : Int) := by
          unfold nssOf
          rw [List.getD_eq_getElem?_getD, List.getElem?_map, List.getElem?_eq_getElem hti]; rfl
        rw [e2]; exact hJ
    · intro aN s7 as hN k7 hl7 has hRs
      have lN : LLI s7.heap aN (nssOf tb) := by
        refine ⟨as, plain_list hl7, by rw [has]; unfold nssOf; rw [List.length_map, GO.lT], fun j r ns h1 h2 => ?_⟩
        obtain ⟨us, h3, h4⟩ := hRs j r h1
        refine ⟨us, h3, ?_⟩
        rw [List.getD_eq_getElem?_getD, h2] at h4
        exact h4
      replace H := H.keeps k7
      obtain ⟨g2, H, kg2, q2⟩ := H.sq cells3
      replace lN := q2.lli lN
      have B2 : Bs w g2 := B1.keeps kg2
      refine s_cell (c := L + 1) (i := 2) H (by kernel_rfl) rfl ?_
      intro s8 H
      replace H : St g2 L [(Str.ofString "table", .ref aT), (Str.ofString "signs", .ref aS), (Str.ofString "script", .ref aX)] [(L + 3, isC none), (L + 2, isC none), (L + 1, isC (some (.ref aN)))] s s8 := H
      clear hl7 hRs has hrs lrs lr5 lT
      -- heights = [_law_height(needs, k) for k in range(5)]
      with_reducible refine x_assign ?_ (by kernel_rfl)
      have nl5 : (nssOf tb).length = 5 := by unfold nssOf; rw [List.length_map, GO.lT]
      refine lc (n := 5) (P := fun i v => ∃ t, v = .int (i : Int) t) (fun i acc => IntsAre acc ((List.range i).map fun k => (ht tb k : Int))) rfl ?_ .nil
      refine e_range (n := 5) (H.bs B2) (by k_is) ?_
      intro ra s9 t9 u9 v9 k9 hr
      refine src_range Rm.hh hr (by decide) ?_
      intro it s10 hsrc
      replace H := H.keeps k9
      refine ⟨hsrc, ?_, ?_⟩
      · intro C m i v acc s11 E11 hi hP hJ hn hm hk
        obtain ⟨tn, rfl⟩ := hP
        have up : ∀ b o, s9.heap.get? b = some o → s11.heap.get? b = some o := fun b o e => hk b o (by simp) e
        have B11 : Bs w s11.heap := (H.bs B2).keeps up
        refine ct_nil ⟨Kp.same _, ?_⟩
        simp only [if_true]
        with_reducible refine c_fn B11 (by k_is) (by k_is) ?_
        with_reducible refine i_cons ?_
        refine n_cell (c := L + 1) (by kernel_rfl) ((H.cell (i := 2) rfl).keeps up) ?_
        with_reducible refine i_cons ?_
        refine n_loc hn hm ?_
        with_reducible refine i_nil ?_
        refine ⟨B11, ?_⟩
        refine wpAny_mono (height_spec (Rm.le (by decide) (by decide)) B11 (lN.keeps fun b o e => up b o (H.keep b o e)) nl5 (by omega) (by omega)) (fun x s12 h12 => ⟨h12.1, ?_⟩) fun _ _ y => y
        obtain ⟨t', rfl⟩ := h12.2
        rw [hl_hn, Int.zero_add, List.range_succ, List.map_append]
        exact ints_snoc hJ
      · intro aH s11 ys hH k11 hl11 hJ
        replace H := H.keeps k11
        have lH : s11.heap.IsList aH ys.toArray := plain_list hl11
        obtain ⟨g3, H, kg3, q3⟩ := H.sq cells3
        replace lH := q3.list lH
        have iH : IntsAre ys (hsOf tb) := hJ
        replace gS := gS.at fun o e => kg3 _ o (kg2 _ o e)
        replace gT := (gT.keeps kg2).keeps kg3
        replace lN := lN.keeps kg3
        have B3 : Bs w g3 := B2.keeps kg3
        refine s_cell (c := L + 2) (i := 1) H (by kernel_rfl) rfl ?_
        intro s12 H
        replace H : St g3 L [(Str.ofString "table", .ref aT), (Str.ofString "signs", .ref aS), (Str.ofString "script", .ref aX)] [(L + 3, isC none), (L + 2, isC (some (.ref aH))), (L + 1, isC (some (.ref aN)))] s s12 := H
        have hV := hV_of GO
        have n3 : ∀ k < 5, (nee tb k).length ≤ 3 := fun k hk => by
          unfold nee
          refine Nat.le_trans (List.length_filterMap_le _ _) ?_
          rw [(row_ok GO hk).1]; omega
        -- sorter = TopologicalSorter()
        with_reducible refine x_assign ?_ (by kernel_rfl)
        with_reducible refine c_cls0 (C := 188) (H.bs B3) (by k_is) (by k_is) ?_
        refine make_sorter (Rm.le (by decide) (by decide)) (H.bs B3) ?_
        intro σ0 s13 k13 x0 hord hrd hpo hfi hfz hnew
        have G0 : Gd g3 L [(L + 3, isC none), (L + 2, isC (some (.ref aH))), (L + 1, isC (some (.ref aN)))] σ0 := by
          intro a ha
          have hn := hnew a ha
          refine ⟨?_, fun q => ?_, fun p hp q => ?_⟩
          · cases q : g3.get? a with
            | none => rfl
            | some o => have := H.keep _ _ q; rw [hn] at this; cases this
          · obtain ⟨o, _, _, ho, _⟩ := H.ns; rw [← q, hn] at ho; cases ho
          · obtain ⟨⟨o, ho, _⟩, _⟩ := H.owns p hp; rw [q, hn] at ho; cases ho
        replace H := H.keeps k13
        refine s_locX H x0 (G0 _ (mem_vs.mpr (.inl rfl))).2.1 (G0 _ (mem_vs.mpr (.inr (.inl rfl)))).2.1 ?_ ⟨Str.ofString "table", _, rfl⟩
        intro s14 H x0
        have sc0 : ∀ j, SC σ0 j = [] := fun j => by unfold SC; rw [hord]; simp
        have np0 : ∀ j, NP σ0 j = 0 := fun j => by unfold NP; rw [hord]; simp
        -- for k in [4, 2, 0, 3, 1]
        obtain ⟨ks, hks⟩ : ∃ ks : List Nat, ks = [4, 2, 0, 3, 1] := ⟨_, rfl⟩
        refine x_forXK (n := 5) (P := fun i v => ∃ k t, ks[i]? = some k ∧ v = .int ((k : Nat) : Int) t)
          (fun i m own σ => FI L aH aN aS aT tb ks i m own σ) H x0 G0 ?_ ?_ ?_ ?_ ?_
        · with_reducible refine e_list ?_
          with_reducible refine i_cons ?_
          refine k_int ?_
          intro t1 c1 k1
          with_reducible refine i_cons ?_
          refine k_int ?_
          intro t2 c2 k2
          with_reducible refine i_cons ?_
          refine k_int ?_
          intro t3 c3 k3
          with_reducible refine i_cons ?_
          refine k_int ?_
          intro t4 c4 k4
          with_reducible refine i_cons ?_
          refine k_int ?_
          intro t5 c5 k5
          with_reducible refine i_nil ?_
          refine ⟨(by show 5 ≤ sizeLine; omega), ?_⟩
          intro aK s15 hK k6 lK
          have kk := (((k1.trans k2).trans k3).trans k4).trans k5
          refine ⟨kk.trans k6, ?_⟩
          refine srcY_list Rm.hh (plain_list lK) ?_
          intro it s16 h16
          refine ⟨[aK], (show SrcY prog w A1 [aK] 5 _ _ _ _ from h16).mono fun i v hv => ?_, fun a ha => ?_⟩
          · rw [hks]
            match i, hv with
            | 0, hv => exact ⟨4, t1, rfl, (Option.some.inj hv).symm⟩
            | 1, hv => exact ⟨2, t2, rfl, (Option.some.inj hv).symm⟩
            | 2, hv => exact ⟨0, t3, rfl, (Option.some.inj hv).symm⟩
            | 3, hv => exact ⟨3, t4, rfl, (Option.some.inj hv).symm⟩
            | 4, hv => exact ⟨1, t5, rfl, (Option.some.inj hv).symm⟩
            | i + 5, hv => simp at hv
          · rw [List.mem_singleton.mp ha]
            refine ⟨fun q => ?_, fun p hp q => ?_, fun q => ?_⟩
            · obtain ⟨o, _, _, ho, _⟩ := (H.keeps kk).ns; rw [← q, hK] at ho; cases ho
            · obtain ⟨⟨o, ho, _⟩, _⟩ := (H.keeps kk).owns p hp; rw [q, hK] at ho; cases ho
            · obtain ⟨o, ho⟩ := (x0.keeps kk.get).vs_in q; rw [hK] at ho; cases ho
        · exact ⟨rfl, rfl, rfl, rfl, hrd, hpo, hfi, hfz, by simp, fun j => by rw [np0]; simp, fun j => by rw [sc0]; simp, fun j => by rw [sc0]; simp⟩
        · rintro i m own σ ⟨_, h, _⟩
          exact ⟨_, _, h⟩
        · rintro i v m own σ g4 s15 E15 K kn kr hi ⟨k, t, hk, rfl⟩ ⟨rfl, hso, hsi, hta, ird, ipo, ifi, ifz, imem, inp, isc, isl⟩ kg4 H x G
          have B4 : Bs w g4 := B3.keeps kg4
          have hk5 : k < 5 := by
            rw [hks] at hk
            match i, hk with
            | 0, hk => cases hk; omega
            | 1, hk => cases hk; omega
            | 2, hk => cases hk; omega
            | 3, hk => cases hk; omega
            | 4, hk => cases hk; omega
            | i + 5, hk => simp at hk
          have hkn : k ∉ ks.take i := by
            rw [hks] at hk ⊢
            match i, hk with
            | 0, hk => cases hk; decide
            | 1, hk => cases hk; decide
            | 2, hk => cases hk; decide
            | 3, hk => cases hk; decide
            | 4, hk => cases hk; decide
            | i + 5, hk => simp at hk
          have et : ks.take (i + 1) = ks.take i ++ [k] := by rw [List.take_add_one, hk]; rfl
          -- sorter.add(k, *needs[k])
          with_reducible refine x_expr ?_ (by kernel_rfl) (by kernel_rfl)
          refine m_star ?_
          refine n_loc H.ns hso ?_
          refine at_bound (f := 138) (H.bs B4) x (by k_is) (by k_is) (by k_is) (by k_is) (by k_is) (by k_is) (by k_is) ?_
          intro q s16 hq k16 eq
          replace H := H.keeps k16
          replace x := x.keeps k16.get
          refine star_two (f := 138) (self := .ref σ.X) (by k_is) rfl ?_
          refine n_loc H.ns rfl ?_
          refine e_item ?_
          refine n_cell (c := L + 1) (by kernel_rfl) (H.cell (i := 2) rfl) ?_
          obtain ⟨rN, lNl, lrN, hrN⟩ := lN
          have hrk : k < rN.length := by rw [lrN, nl5]; exact hk5
          have hnk : (nssOf tb)[k]? = some (nums (nee tb k)) := by
            have h1 := nss_get tb k
            rw [List.getD_eq_getElem?_getD, List.getElem?_eq_getElem (by rw [nl5]; exact hk5)] at h1
            rw [List.getElem?_eq_getElem (by rw [nl5]; exact hk5)]
            exact congrArg some h1
          obtain ⟨us, lus, ius⟩ := hrN k _ _ (List.getElem?_eq_getElem hrk) hnk
          refine n_loc H.ns rfl (item_n (v := .ref rN[k]) (lNl.at fun o e => H.keep _ o (kg4 _ o e)) hk5 (by rw [List.getElem?_map, List.getElem?_eq_getElem hrk]; rfl) ?_)
          have hul : us.length = (nee tb k).length := by rw [ius.length]; simp [nums]
          have hu3 := n3 k hk5
          obtain ⟨ou, hou, hcu, nu, hdu⟩ := lus
          refine star_of (.inl rfl) (H.keep _ _ (kg4 _ _ hou)) hcu hdu (by omega) ?_
          intro s17 k17
          replace H := H.keeps k17
          replace x := x.keeps k17.get
          have eq17 := k17.get _ _ eq
          refine ⟨⟨eq17, (H.bs B4).X⟩, ?_⟩
          refine wpAny_mono (wpAny_call (method_call eq17 (add_code (t := t) (vs := us) (ps := nee tb k) (E := E15) (Rm.le (by decide) (by decide)) (B4.keeps (H.hid G)) x hk5 (hV k hk5) ius hu3 ird ifz (fun j => by have := isl j; omega)))) (fun v s18 h18 => ?_) fun _ _ y => y
          obtain ⟨rfl, σ', AR, AF⟩ := h18
          obtain ⟨H', G'⟩ := G.aft H AF
          refine ⟨rfl, x_nil (kn _ _ σ' _ H' AF.x G' ⟨rfl, ?_, hsi, hta, AR.rd.trans ird, AR.po.trans ipo, AR.fi.trans ifi, AR.fz.trans ifz, ?_, ?_, ?_, ?_⟩).1⟩
          · rw [AR.X]; exact hso
          · intro j hj
            rw [et] at hj
            rcases List.mem_append.mp hj with hj | hj
            · exact (AR.mem j).mpr (.inl (imem j hj))
            · exact (AR.mem j).mpr (.inr (.inl (List.mem_singleton.mp hj)))
          · intro j
            rw [AR.np, inp, et]
            by_cases hj : j = k
            · subst hj; simp [hkn]
            · simp [hj]
          · intro j
            rw [AR.sc, isc, et, List.flatMap_append]; simp
          · intro j
            rw [AR.sc, List.length_append, List.length_map]
            have := isl j
            have := List.length_filter_le (· == j) (nee tb k)
            omega
        · rintro m own σ s15 ⟨rfl, hso, hsi, hta, ird, ipo, ifi, ifz, imem, inp, isc, isl⟩ H x G
          have ek : ks.take 5 = ks := by rw [hks]; rfl
          rw [ek] at imem
          have ink : ∀ k < 5, k ∈ ks := by
            intro k hk
            rw [hks]
            match k, hk with
            | 0, _ => decide
            | 1, _ => decide
            | 2, _ => decide
            | 3, _ => decide
            | 4, _ => decide
            | k + 5, hk => omega
          have ford : ∀ k, k ∈ σ.ord ↔ k < 5 := fun k => ⟨x.lt k, fun h => imem k (ink k h)⟩
          have hnp1 : ∀ k < 5, σ.np k = ((nee tb k).length : Int) := by
            intro k hk
            have := inp k
            unfold NP at this
            rw [if_pos ((ford k).mpr hk), ek, if_pos (ink k hk)] at this
            exact this
          obtain ⟨σ1, h1e⟩ : ∃ σ1, σ1 = σ.nrm := ⟨_, rfl⟩
          replace x := x.nrm
          rw [← h1e] at x
          replace G : Gd g3 L [(L + 3, isC none), (L + 2, isC (some (.ref aH))), (L + 1, isC (some (.ref aN)))] σ1 := fun a ha => G a (nrm_vs (h1e ▸ ha))
          have eX : σ1.X = σ.X := by rw [h1e]; rfl
          have eo : σ1.ord = σ.ord := by rw [h1e]; rfl
          have enp : σ1.np = σ.np := by rw [h1e]; rfl
          have erd : σ1.rd = none := by rw [h1e]; exact ird
          have epo : σ1.po = 0 := by rw [h1e]; exact ipo
          have efi : σ1.fi = 0 := by rw [h1e]; exact ifi
          have efz : σ1.fz = true := by rw [h1e]; rfl
          have esc : ∀ j, σ1.sc j = SC σ j := fun j => by rw [h1e]; rfl
          have hG : ∀ j i, (σ1.sc j).count i = if i < 5 then (nee tb i).count j else 0 := sc_count hV fun j => by rw [esc, isc, ek, hks]
          have hscm : ∀ k ∈ σ1.ord, ∀ j ∈ σ1.sc k, j ∈ σ1.ord := fun k hk j hj => by
            rw [eo, ford]
            exact ((mem_G hG).mp hj).1
          have hscl : ∀ k ∈ σ1.ord, (σ1.sc k).length ≤ 100 := fun k hk => by
            have := isl k
            rw [esc]; omega
          rw [← eX] at hso
          replace ford : ∀ k, k ∈ σ1.ord ↔ k < 5 := fun k => by rw [eo]; exact ford k
          replace hnp1 : ∀ k < 5, σ1.np k = ((nee tb k).length : Int) := fun k hk => by rw [enp]; exact hnp1 k hk
          clear imem inp isc isl ird ipo ifi ifz enp eo esc eX ek ink
          replace hfr1 : A1.frames = some [envC _ _ L 217 _] := hfr1
          -- try: sorter.prepare()
          refine x_seqC (fun s' => ∃ b D m, TI prog w g3 L aH aN aS aT tb s σ1 b D m s') ?_ ?_
          · refine wpAny_Try_except ?_
            with_reducible refine x_expr ?_ (by kernel_rfl) (by kernel_rfl)
            with_reducible refine m_call ?_
            refine n_loc H.ns hso ?_
            refine gm_X (f := 143) (H.bs B3) x (by k_is) (by k_is) ?_
            with_reducible refine cf0 (H.bs B3) (by k_is) ?_
            refine wpAny_mono (prepare_spec (Fa := L) (Rm.le (by decide) (by decide)) hfr1 (by show ScopeKind.function ≠ ScopeKind.module; decide) rfl H.ns ⟨Str.ofString "sorter", _, hso⟩ (fun q => (G L q).2.1 rfl) ?_ x erd efz hscm hscl) (fun v s16 h16 => ?_) (fun e s16 h16 => ?_)
            · refine B3.keeps fun b o e => hideAll_get _ (H.keep b o e) fun q => ?_
              rcases List.mem_cons.mp q with q | q
              · have := H.above; rw [← q, e] at this; cases this
              · have := (G b q).1; rw [e] at this; cases this
            · obtain ⟨rfl, ⟨D, P⟩, fin, htp, hall⟩ := h16
              obtain ⟨H', G'⟩ := H.prep G P
              refine ⟨rfl, ?_⟩
              -- ring = False
              with_reducible refine x_assign ?_ (by kernel_rfl)
              refine wpAny_Constant_bool ?_
              refine s_locX H' P.x (G' _ (mem_vs.mpr (.inl rfl))).2.1 (G' _ (mem_vs.mpr (.inr (.inl rfl)))).2.1 ?_ ⟨Str.ofString "sorter", _, hso⟩
              intro s17 H x
              refine x_nil (x_nil ⟨rfl, false, D, _, H, x, G', rfl, hso, hsi, hta, ?_⟩)
              refine ⟨(fun q => by cases q), ?_⟩
              rintro ⟨k, hk, h6⟩
              have := topo_six hV hG htp (fun k hk => hall k ((ford k).mpr hk)) _ k hk (Nat.le_refl _)
              omega
            · obtain ⟨ea, rfl, ⟨D, P⟩, ⟨k6, hk6, hpl⟩, hea, hT⟩ := h16
              obtain ⟨H', G'⟩ := H.prep G P
              obtain ⟨oe, ves, T, oT, vts, t1, t2, t3, t4, t5, t6, t7, t8, t9⟩ := hT
              have nog : ∀ a, s15.heap.get? a = none → g3.get? a = none ∧ a ≠ L ∧ ∀ p ∈ [(L + 3, isC none), (L + 2, isC (some (.ref aH))), (L + 1, isC (some (.ref aN)))], p.1 ≠ a := by
                intro a ha
                refine ⟨?_, fun q => ?_, fun p hp q => ?_⟩
                · cases q : g3.get? a with
                  | none => rfl
                  | some o => have := H.keep _ _ q; rw [ha] at this; cases this
                · obtain ⟨o, _, _, ho, _⟩ := H.ns; rw [← q, ha] at ho; cases ho
                · obtain ⟨⟨o, ho, _⟩, _⟩ := H.owns p hp; rw [q, ha] at ho; cases ho
              obtain ⟨n1, n2, n3⟩ := nog ea hea
              obtain ⟨n4, n5, n6⟩ := nog T t9
              obtain ⟨g5, H5, kg5, x5, hid⟩ := H'.rebF cells3 P.x G' ⟨Str.ofString "sorter", _, hso⟩ [ea, T] (by
                intro a ha
                rcases List.mem_cons.mp ha with rfl | ha
                · exact ⟨n1, _, _, t1, t3⟩
                · rw [List.mem_singleton.mp ha]
                  exact ⟨n4, _, _, t5, t6⟩)
              refine caught_106 (outer := []) (B3.keeps kg5) (by k_is) H5 (by intro e he; cases he) hfr1 rfl rfl ⟨oe, ves, T, oT, vts, t1, t2, t3, t4, t5, t6, t7, t8, n5, hid T (by simp), n6⟩ n2 (hid ea (by simp)) n3 ?_
              intro E' s17 H
              -- ring = True
              with_reducible refine x_assign ?_ (by kernel_rfl)
              refine wpAny_Constant_bool ?_
              refine s_loc H ?_
              intro s18 H
              refine x_nil ?_
              refine ⟨rfl, true, D, _, H.base kg5, x5.keeps H.keep, G', rfl, hso, hsi, hta, (fun _ => ⟨k6, (ford k6).mp hk6, ring_six hV hG hpl ((ford k6).mp hk6)⟩), (fun _ => rfl)⟩
          · rintro s16 ⟨b, D, m', H, x, G, hri, hso, hsi, hta, hb⟩
            obtain ⟨σ2, h2e⟩ : ∃ σ2, σ2 = ({ σ1 with rd := some (D, rdy σ1) } : Sg) := ⟨_, rfl⟩
            rw [← h2e] at x G
            have e2X : σ2.X = σ1.X := by rw [h2e]
            have e2o : σ2.ord = σ1.ord := by rw [h2e]
            have e2np : σ2.np = σ1.np := by rw [h2e]
            have e2rd : σ2.rd = some (D, rdy σ1) := by rw [h2e]
            have e2po : σ2.po = 0 := by rw [h2e]; exact epo
            have e2fi : σ2.fi = 0 := by rw [h2e]; exact efi
            have e2fz : σ2.fz = true := by rw [h2e]; exact efz
            have e2sc : σ2.sc = σ1.sc := by rw [h2e]
            rw [← e2X] at hso
            have kgs : ∀ b o, s.heap.get? b = some o → g3.get? b = some o := fun b o e => kg3 b o (kg2 b o (kg1 b o e))
            have TB : Tabs g3 aS aT aH sg tb (hsOf tb) := ⟨⟨vS, gS, iS⟩, gT, ⟨ys, lH, iH⟩, GO.lS, GO.lT, by simp [hsOf], three_of GO⟩
            have hok : ∀ r : Nat, ∀ k < 5, (hsOf tb).getD k 0 < 6 → okP tb (hsOf tb) (r : Int) 5 (.ref k) := fun r k hk h6 => by
              rw [hs_get tb hk] at h6
              exact okP_of GO 5 k hk (by omega) (by omega)
            have hhead : ∀ (r : Int), ∀ c ∈ txt sg tb (hsOf tb) r, c < 128 ∧ c ≠ 95 := fun r c hc => by
              have := txt_ok GO r c hc
              unfold SignOk at this
              omega
            have hvis : ∀ (r : Int), Vis (txt sg tb (hsOf tb) r) := fun r c hc => by
              have := txt_ok GO r c hc
              unfold SignOk at this
              omega
            clear hX iX
            -- if ring != (max(heights) == 6)
            refine x_if (t_cmp ?_)
            refine n_loc H.ns hri ?_
            refine e_cmp ?_
            with_reducible refine c_bi (H.bs B3) (by k_is) boot_mx ?_
            with_reducible refine i_cons ?_
            refine n_cell (c := L + 2) (by kernel_rfl) (H.cell (i := 1) rfl) ?_
            with_reducible refine i_nil ?_
            refine max_l Rm.hh (lH.at fun o e => H.keep _ o e) iH (by simp [hsOf]) ?_
            intro s17 mx tm k17 hm1 hm2
            replace H := H.keeps k17
            replace x := x.keeps k17.get
            refine k_int ?_
            intro t18 s18 k18
            replace H := H.keeps k18
            replace x := x.keeps k18.get
            refine eq_i ?_
            rw [max_six hm1 hm2 hb]
            refine ne_b (tru_b ?_)
            refine ite_f (show (!(b == b)) = false from by simp) ?_
            refine x_nil ?_
            clear hm1 hm2 k17 k18
            dsimp only
            -- rounds = 0
            with_reducible refine x_assign ?_ (by kernel_rfl)
            refine k_int ?_
            intro t0 s19 k19
            replace H := H.keeps k19
            replace x := x.keeps k19.get
            refine s_cellX (c := L + 3) (i := 0) H x (by kernel_rfl) rfl ?_
            intro s20 H x
            replace H : St g3 L m' [(L + 3, isC (some (.int 0 t0))), (L + 2, isC (some (.ref aH))), (L + 1, isC (some (.ref aN)))] s s20 := H
            replace G : Gd g3 L [(L + 3, isC (some (.int 0 t0))), (L + 2, isC (some (.ref aH))), (L + 1, isC (some (.ref aN)))] σ2 := G.own rfl
            -- text = _law_text(signs, table, heights, 0)
            with_reducible refine x_assign ?_ (by kernel_rfl)
            with_reducible refine c_fn (H.bs B3) (by k_is) (by k_is) ?_
            with_reducible refine i_cons ?_
            refine n_loc H.ns hsi ?_
            with_reducible refine i_cons ?_
            refine n_loc H.ns hta ?_
            with_reducible refine i_cons ?_
            refine n_cell (c := L + 2) (by kernel_rfl) (H.cell (i := 1) rfl) ?_
            with_reducible refine i_cons ?_
            refine k_int ?_
            intro t21 s21 k21
            replace H := H.keeps k21
            replace x := x.keeps k21.get
            with_reducible refine i_nil ?_
            refine ⟨H.bs B3, ?_⟩
            refine text_k (r := ((0 : Nat) : Int)) (Rm.le (by decide) (by decide)) (H.bs B3) (TB.keeps H.keep) (hok 0) ?_
            intro s22 tt k22
            replace H := H.keeps k22
            replace x := x.keeps k22.get
            refine s_locX H x (G _ (mem_vs.mpr (.inl rfl))).2.1 (G _ (mem_vs.mpr (.inr (.inl rfl)))).2.1 ?_ ⟨Str.ofString "sorter", _, hso⟩
            intro s23 H x
            -- while sorter.is_active()
            refine x_whileK (fun n s' => ∃ (r : Nat) (D : Addr) (l : List Nat) (m : List (Str × Value)) (σ : Sg) (tr tt : Tok), n = 6 - r ∧ LI prog w g3 L aS aT aH aN sg tb s σ1 r D l m σ tr tt s') 6 ?_ ?_
            · refine ⟨0, D, rdy σ1, _, σ2, t0, tt, rfl, by decide, H, x, G, hso, hsi, hta, rfl, e2rd, e2po.trans e2fi.symm, e2fz, e2sc, e2o, ?_, .inl rfl⟩
              rw [e2np]
              refine Rnd.start hV (x.nd.filter _ |> fun h => by unfold rdy; rw [← e2o]; exact h) (fun k => ?_) hnp1
              unfold rdy
              rw [List.mem_filter, ford, beq_iff_eq]
            · intro E' n s24 K kn kb kr hI
              obtain ⟨r, D, l, m, σ, tr, tt, rfl, hr5, H, x, G, hso, hsi, hta, hte, ird, ipf, ifz, isc, iod, R, hrk⟩ := hI
              have hlm : ∀ k ∈ l, k ∈ σ.ord := fun k hk => by rw [iod, ford]; exact ((R.mem k).mp hk).1
              have hll : l.length ≤ 5 := nd_len 5 l R.nd fun k hk => ((R.mem k).mp hk).1
              refine t_call ?_
              with_reducible refine m_call ?_
              refine n_loc H.ns hso ?_
              refine gm_X (f := 157) (H.bs B3) x (by k_is) (by k_is) ?_
              with_reducible refine cf0 (H.bs B3) (by k_is) ?_
              refine active_k (Rm.le (by decide) (by decide)) (H.bs B3) x ird (Nat.le_trans hll (by decide)) ?_
              intro s25 k25
              replace H := H.keeps k25
              replace x := x.keeps k25.get
              refine tru_b ?_
              have ea : (decide (σ.fi < σ.po) || !l.isEmpty) = !l.isEmpty := by rw [ipf]; simp
              rw [ea]
              by_cases hl0 : l = []
              · refine ite_f (by rw [hl0]; rfl) ?_
                have top := R.top hV hG hl0
                -- if rounds != max([0] + [steps for steps in heights if steps < 6])
                refine x_if (t_cmp ?_)
                refine n_cell (c := L + 3) (by kernel_rfl) (H.cell (i := 0) rfl) ?_
                with_reducible refine c_bi (H.bs B3) (by k_is) boot_mx ?_
                with_reducible refine i_cons ?_
                refine e_bin ?_
                with_reducible refine e_list ?_
                with_reducible refine i_cons ?_
                refine k_int ?_
                intro t26 s26 k26
                replace H := H.keeps k26
                replace x := x.keeps k26.get
                with_reducible refine i_nil ?_
                refine ⟨(by show 1 ≤ sizeLine; omega), ?_⟩
                intro a0 s27 ha0 k27 l0
                replace H := H.keeps k27
                replace x := x.keeps k27.get
                have hyl : ys.length = 5 := by rw [iH.length]; simp [hsOf]
                refine lc (n := ys.length) (P := fun i v => ys[i]? = some v) (fun i acc => IntsAre acc (((List.range i).filter fun k => decide (ht tb k < 6)).map fun (k : Nat) => (ht tb k : Int))) rfl ?_ .nil (by omega)
                refine n_cell (c := L + 2) (by kernel_rfl) (H.cell (i := 1) rfl) ?_
                refine src_list Rm.hh (lH.at fun o e => H.keep _ o e) ?_
                intro it s28 hsrc
                refine ⟨hsrc, ?_, ?_⟩
                · intro C mm i v acc s29 E29 hi hP hJ hn hm hk
                  obtain ⟨th, hth⟩ := hs_at iH (hyl ▸ hi : i < 5)
                  rw [hth] at hP
                  obtain rfl := Option.some.inj hP
                  refine ct_one (t_cmp ?_)
                  refine n_loc hn hm ?_
                  refine k_int ?_
                  intro t30 s30 k30
                  refine lt_int (tru_b ⟨k30, ?_⟩)
                  by_cases h6 : ht tb i < 6
                  · rw [if_pos (by simp; omega)]
                    refine n_loc (hn.at' fun o e => k30.get _ o e) hm ⟨Kp.same _, ?_⟩
                    dsimp only
                    rw [List.range_succ, List.filter_append, List.map_append]
                    simp only [List.filter_cons, List.filter_nil, decide_eq_true h6, if_true, List.map_cons, List.map_nil]
                    exact ints_snoc hJ
                  · rw [if_neg (by simp; omega)]
                    dsimp only
                    rw [List.range_succ, List.filter_append, List.map_append]
                    simp only [List.filter_cons, List.filter_nil, decide_eq_false h6, if_false, List.map_cons, List.map_nil, List.append_nil, Bool.false_eq_true]
                    exact hJ
                · intro a1 s29 zs ha1 k29 l1 hJ
                  replace H := H.keeps k29
                  replace x := x.keeps k29.get
                  rw [hyl] at hJ
                  refine add_l (l0.at fun o e => k29.get _ o e) l1 ?_ ?_
                  · have := hJ.length
                    have h2 := List.length_filter_le (fun k => decide (ht tb k < 6)) (List.range 5)
                    rw [List.length_map] at this
                    rw [List.length_range] at h2
                    show 1 + zs.length ≤ sizeLine
                    omega
                  intro a2 s30 ha2 k30 l2
                  replace H := H.keeps k30
                  replace x := x.keeps k30.get
                  with_reducible refine i_nil ?_
                  refine max_l Rm.hh (plain_list l2) (.cons 0 t26 hJ) (by simp) ?_
                  intro s31 mx tm k31 hm1 hm2
                  replace H := H.keeps k31
                  replace x := x.keeps k31.get
                  rw [max_top top hrk (by omega) hm1 hm2]
                  refine P.ne_int (tru_b ?_)
                  refine ite_f (by simp) ?_
                  refine x_nil ?_
                  dsimp only
                  have hsame : scan (txt sg tb (hsOf tb) (r : Int)) = txt sg tb (hsOf tb) (r : Int) := by
                    rw [scan_txt GO]
                    exact txt_same GO fun k hk h6 e => by have := top k hk h6; omega
                  -- return header_decode(text) == text and decode(text) == text
                  refine x_ret (wpAny_And2 ?_)
                  refine e_cmp ?_
                  with_reducible refine c_fn (H.bs B3) (by k_is) (by k_is) ?_
                  with_reducible refine i_cons ?_
                  refine n_loc H.ns hte ?_
                  with_reducible refine i_nil ?_
                  refine ⟨H.bs B3, ?_⟩
                  refine header_k (Rm.le (by decide) (by decide)) (H.bs B3) (hhead _) (txt_len GO _) ?_
                  intro s32 t32 k32
                  replace H := H.keeps k32
                  refine n_loc H.ns hte ?_
                  refine eq_s (tru_b ?_)
                  rw [hsame]; refine ite_t (by simp) ?_
                  refine e_cmp ?_
                  with_reducible refine c_fn (H.bs B3) (by k_is) (by k_is) ?_
                  with_reducible refine i_cons ?_
                  refine n_loc H.ns hte ?_
                  with_reducible refine i_nil ?_
                  refine ⟨H.bs B3, ?_⟩
                  refine decode_k (Rm.le (by decide) (by decide)) (H.bs B3) (hvis _) (txt_last _) (txt_len GO _) ?_
                  intro s33 t33 k33
                  replace H := H.keeps k33
                  refine n_loc H.ns hte ?_
                  refine eq_s ?_
                  rw [hsame]
                  refine ⟨by simp, H.near, fun b o e => H.keep b o (kgs b o e)⟩
              · refine ite_t (show (!l.isEmpty) = true from by simpa using hl0) ?_
                obtain ⟨k0, hk0⟩ := List.exists_mem_of_ne_nil l hl0
                have hk0' := (R.mem k0).mp hk0
                have hr6 : r + 1 < 6 := by omega
                -- rounds += 1
                refine x_aug ?_
                refine wpAny_loadName_cell (c := L + 3) (by kernel_rfl) (by kernel_rfl) (by kernel_rfl) (H.cell (i := 0) rfl) ?_
                refine k_int ?_
                intro t26 s26 k26
                refine iadd_i ?_
                intro t27 s27 k27
                replace H := (H.keeps k26).keeps k27
                replace x := (x.keeps k26.get).keeps k27.get
                refine s_cellX (c := L + 3) (i := 0) H x (by kernel_rfl) rfl ?_
                intro s28 H x
                replace H : St g3 L m [(L + 3, isC (some (.int ((r + 1 : Nat) : Int) t27))), (L + 2, isC (some (.ref aH))), (L + 1, isC (some (.ref aN)))] s s28 := H
                replace G : Gd g3 L [(L + 3, isC (some (.int ((r + 1 : Nat) : Int) t27))), (L + 2, isC (some (.ref aH))), (L + 1, isC (some (.ref aN)))] σ := G.own rfl
                -- ready = sorter.get_ready()
                with_reducible refine x_assign ?_ (by kernel_rfl)
                with_reducible refine m_call ?_
                refine n_loc H.ns hso ?_
                refine gm_X (f := 150) (H.bs B3) x (by k_is) (by k_is) ?_
                with_reducible refine cf0 (H.bs B3) (by k_is) ?_
                refine ready_k (Rm.le (by decide) (by decide)) (B3.keeps (H.hid G)) x ird (Nat.le_trans hll (by decide)) hlm ?_
                intro s29 T vr hTn hT ivr hTv AF
                have hTL : T ≠ L := fun q => by obtain ⟨o, _, _, ho, _⟩ := H.ns; rw [← q, hTn] at ho; cases ho
                have hTo : ∀ p ∈ [(L + 3, isC (some (.int ((r + 1 : Nat) : Int) t27))), (L + 2, isC (some (.ref aH))), (L + 1, isC (some (.ref aN)))], p.1 ≠ T := fun p hp q => by
                  obtain ⟨⟨o, ho, _⟩, _⟩ := H.owns p hp; rw [q, hTn] at ho; cases ho
                obtain ⟨σ3, h3e⟩ : ∃ σ3, σ3 = ({ σ with np := fun j => if j ∈ l then -1 else σ.np j, rd := some (D, []), po := σ.po + (l.length : Int) } : Sg) := ⟨_, rfl⟩
                rw [← h3e] at AF
                obtain ⟨H', G'⟩ := G.aft H AF
                have x3 := AF.x
                have hT3 : T ∉ σ3.vs := fun q => hTv (by
                  rcases mem_vs.mp q with e | e | ⟨k, hk, e⟩ | ⟨k, hk, e1, e2⟩ | ⟨p, e1, e2⟩
                  · exact mem_vs.mpr (.inl (by rw [h3e] at e; exact e))
                  · exact mem_vs.mpr (.inr (.inl (by rw [h3e] at e; exact e)))
                  · rw [h3e] at hk e; exact mem_vs.mpr (.inr (.inr (.inl ⟨k, hk, e⟩)))
                  · rw [h3e] at hk e1 e2; exact mem_vs.mpr (.inr (.inr (.inr (.inl ⟨k, hk, e1, e2⟩))))
                  · rw [h3e] at e1
                    obtain rfl := Option.some.inj e1
                    exact mem_vs.mpr (.inr (.inr (.inr (.inr ⟨_, ird, e2⟩)))))
                obtain ⟨g6, H6, G6, kg6, k6⟩ := H'.frzX G'
                have gT6 := k6 T _ hT hTL hTo hT3
                have B6 : Bs w g6 := B3.keeps kg6
                have e3X : σ3.X = σ.X := by rw [h3e]
                have e3o : σ3.ord = σ1.ord := by rw [h3e]; exact iod
                have e3sc : σ3.sc = σ1.sc := by rw [h3e]; exact isc
                have e3np : σ3.np = fun j => if j ∈ l then -1 else σ.np j := by rw [h3e]
                have e3rd : σ3.rd = some (D, []) := by rw [h3e]
                have e3pf : σ3.po = σ3.fi + (l.length : Int) := by rw [h3e]; show σ.po + _ = σ.fi + _; rw [ipf]
                have e3fz : σ3.fz = true := by rw [h3e]; exact ifz
                rw [← e3X] at hso
                clear h3e AF H G H' G' x k6 hT hTv hTn hT3 ird ipf ifz isc iod hTo ea
                have hvl : vr.length = l.length := by rw [ivr.length]; simp [nums]
                refine s_locX H6 x3 (G6 _ (mem_vs.mpr (.inl rfl))).2.1 (G6 _ (mem_vs.mpr (.inr (.inl rfl)))).2.1 ?_ ⟨Str.ofString "sorter", _, hso⟩
                intro s30 H x
                -- if sorted(ready) != [k for k in range(5) if heights[k] == rounds]
                refine x_if (t_cmp ?_)
                with_reducible refine c_bi (H.bs B6) (by k_is) boot_srt ?_
                with_reducible refine i_cons ?_
                refine n_loc H.ns rfl ?_
                with_reducible refine i_nil ?_
                refine sorted_t (H.keep _ _ gT6) ivr (by omega) ?_
                intro aQ s31 us ms hQn k31 lus ius hperm hsort
                replace H := H.keeps k31
                replace x := x.keeps k31.get
                refine lc (n := 5) (P := fun i v => ∃ t, v = .int (i : Int) t) (fun i acc => IntsAre acc (((List.range i).filter fun k => decide (ht tb k = r + 1)).map fun (k : Nat) => (k : Int))) rfl ?_ .nil
                refine e_range (n := 5) (H.bs B6) (by k_is) ?_
                intro ra s32 t32 u32 v32 k32 hrg
                replace H := H.keeps k32
                replace x := x.keeps k32.get
                replace lus := lus.at fun o e => k32.get _ o e
                refine src_range Rm.hh hrg (by decide) ?_
                intro it s33 hsrc
                refine ⟨hsrc, ?_, ?_⟩
                · intro C mm i v acc s34 E34 hi hP hJ hn hm hk
                  obtain ⟨tn, rfl⟩ := hP
                  have up : ∀ b o, s32.heap.get? b = some o → s34.heap.get? b = some o := fun b o e => hk b o (by simp) e
                  obtain ⟨th, hth⟩ := hs_at iH hi
                  refine ct_one (t_cmp ?_)
                  refine e_item ?_
                  refine n_cell (c := L + 2) (by kernel_rfl) ((H.cell (i := 1) rfl).keeps up) ?_
                  refine n_loc hn hm (item_n (lH.at fun o e => up _ o (H.keep _ o (kg6 _ o e))) hi hth ?_)
                  refine n_cell (c := L + 3) (by kernel_rfl) ((H.cell (i := 0) rfl).keeps up) ?_
                  refine eq_i (tru_b ⟨Kp.same _, ?_⟩)
                  by_cases h6 : ht tb i = r + 1
                  · rw [if_pos (by rw [beq_iff_eq]; omega)]
                    refine n_loc hn hm ⟨Kp.same _, ?_⟩
                    dsimp only
                    rw [List.range_succ, List.filter_append, List.map_append]
                    simp only [List.filter_cons, List.filter_nil, decide_eq_true h6, if_true, List.map_cons, List.map_nil]
                    exact ints_snoc hJ
                  · rw [if_neg (by rw [beq_iff_eq]; omega)]
                    dsimp only
                    rw [List.range_succ, List.filter_append, List.map_append]
                    simp only [List.filter_cons, List.filter_nil, decide_eq_false h6, if_false, List.map_cons, List.map_nil, List.append_nil, Bool.false_eq_true]
                    exact hJ
                · intro aC s34 zs hCn k34 lzs hJ
                  replace H := H.keeps k34
                  replace x := x.keeps k34.get
                  refine ne_ints (lus.at fun o e => k34.get _ o e) ius (plain_list lzs) hJ (by have := Rm.hu; omega) ?_
                  rw [ready_eq R hr6 hperm hsort]
                  refine tru_b ?_
                  refine ite_f (by simp) ?_
                  refine x_nil ?_
                  dsimp only
                  -- told = _law_text(signs, table, heights, rounds)
                  with_reducible refine x_assign ?_ (by kernel_rfl)
                  with_reducible refine c_fn (H.bs B6) (by k_is) (by k_is) ?_
                  with_reducible refine i_cons ?_
                  refine n_loc H.ns hsi ?_
                  with_reducible refine i_cons ?_
                  refine n_loc H.ns hta ?_
                  with_reducible refine i_cons ?_
                  refine n_cell (c := L + 2) (by kernel_rfl) (H.cell (i := 1) rfl) ?_
                  with_reducible refine i_cons ?_
                  refine n_cell (c := L + 3) (by kernel_rfl) (H.cell (i := 0) rfl) ?_
                  with_reducible refine i_nil ?_
                  refine ⟨H.bs B6, ?_⟩
                  refine text_k (r := ((r + 1 : Nat) : Int)) (Rm.le (by decide) (by decide)) (H.bs B6) (TB.keeps fun b o e => H.keep b o (kg6 b o e)) (hok (r + 1)) ?_
                  intro s35 tq k35
                  replace H := H.keeps k35
                  replace x := x.keeps k35.get
                  refine s_locX H x (G6 _ (mem_vs.mpr (.inl rfl))).2.1 (G6 _ (mem_vs.mpr (.inr (.inl rfl)))).2.1 ?_ ⟨Str.ofString "sorter", _, hso⟩
                  intro s36 H x
                  -- if header_decode(text) != told or decode(text) != told
                  refine x_if (t_or (t_cmp ?_))
                  with_reducible refine c_fn (H.bs B6) (by k_is) (by k_is) ?_
                  with_reducible refine i_cons ?_
                  refine n_loc H.ns hte ?_
                  with_reducible refine i_nil ?_
                  refine ⟨H.bs B6, ?_⟩
                  refine header_k (Rm.le (by decide) (by decide)) (H.bs B6) (hhead _) (txt_len GO _) ?_
                  intro s37 t37 k37
                  replace H := H.keeps k37
                  replace x := x.keeps k37.get
                  refine n_loc H.ns rfl ?_
                  refine ne_s (tru_b ?_)
                  rw [scan_txt GO]; refine ite_f (by simp) ?_
                  refine t_cmp ?_
                  with_reducible refine c_fn (H.bs B6) (by k_is) (by k_is) ?_
                  with_reducible refine i_cons ?_
                  refine n_loc H.ns hte ?_
                  with_reducible refine i_nil ?_
                  refine ⟨H.bs B6, ?_⟩
                  refine decode_k (Rm.le (by decide) (by decide)) (H.bs B6) (hvis _) (txt_last _) (txt_len GO _) ?_
                  intro s38 t38 k38
                  replace H := H.keeps k38
                  replace x := x.keeps k38.get
                  refine n_loc H.ns rfl ?_
                  refine ne_s (tru_b ?_)
                  rw [scan_txt GO]; refine ite_f (by simp) ?_
                  refine x_nil ?_
                  dsimp only
                  -- text = told
                  with_reducible refine x_assign ?_ (by kernel_rfl)
                  refine n_loc H.ns rfl ?_
                  refine s_locX H x (G6 _ (mem_vs.mpr (.inl rfl))).2.1 (G6 _ (mem_vs.mpr (.inr (.inl rfl)))).2.1 ?_ ⟨Str.ofString "sorter", _, hso⟩
                  intro s39 H x
                  -- sorter.done(*ready)
                  with_reducible refine x_expr ?_ (by kernel_rfl) (by kernel_rfl)
                  refine m_star ?_
                  refine n_loc H.ns hso ?_
                  refine at_bound (f := 171) (H.bs B6) x (by k_is) (by k_is) (by k_is) (by k_is) (by k_is) (by k_is) (by k_is) ?_
                  intro q s40 hq k40 eq
                  replace H := H.keeps k40
                  replace x := x.keeps k40.get
                  refine star_one (f := 171) (self := .ref σ3.X) (by k_is) ?_
                  refine n_loc H.ns rfl ?_
                  refine star_of (.inr rfl) (H.keep _ _ gT6) rfl rfl (by omega) ?_
                  intro s41 k41
                  replace H := H.keeps k41
                  replace x := x.keeps k41.get
                  have eq41 := k41.get _ _ eq
                  refine ⟨⟨eq41, (H.bs B6).X⟩, ?_⟩
                  obtain ⟨R', hout⟩ := R.step hV hG hr6
                  refine wpAny_mono (wpAny_call (method_call eq41 (done_code (vs := vr) (ks := l) (E := E') (Rm.le (by decide) (by decide)) (B6.keeps (H.hid G6)) x e3rd e3fz ivr hll (by simp) (fun k hk => by rw [e3o, ford]; exact ((R.mem k).mp hk).1) (by rw [e3o, e3sc]; exact hscm) (by rw [e3o, e3sc]; exact hscl) (by rw [e3sc, e3np]; exact hout)))) (fun v s42 h42 => ?_) fun _ _ y => y
                  obtain ⟨rfl, AF⟩ := h42
                  rw [e3sc, e3np] at AF
                  obtain ⟨H', G'⟩ := G6.aft H AF
                  refine ⟨rfl, x_nil (kn _ ⟨6 - (r + 1), by omega, r + 1, D, _, _, _, t27, tq, rfl, by omega, H'.base kg6, AF.x, ?_, hso, hsi, hta, rfl, rfl, e3pf, e3fz, e3sc, e3o, R', .inr ⟨k0, hk0'.1, hk0'.2.1⟩⟩).1⟩
                  intro a ha
                  obtain ⟨q1, q2, q3⟩ := G' a ha
                  refine ⟨?_, q2, q3⟩
                  cases q : g3.get? a with
                  | none => rfl
                  | some o => have := kg6 _ _ q; rw [q1] at this; cases this
end
end Mine
end

-- Z1
section
open PySem PySem.W PyProof.Rows PySem.Calls
set_option Elab.async false
set_option linter.unusedVariables false
namespace Mine
theorem callerA_room : Room callerA 20 200 := ⟨rfl, by decide, by decide⟩
set_option maxRecDepth 100000 in
set_option maxHeartbeats 8000000 in
theorem whole : PySem.Challenge.rw_of0070_01.Holds := Mine.hd (by
  k_fill
  intro w s₀ s₁ mg mb G Y fa o pm cd doc dV kV ho hd hcd hD hmg hg args vals as hpre hlay hrd hwl hlo
  have KX := kIn_of Y
  refine Ground.open G ?_
  intro T B D TE TW
  clear D TE TW Y G hcd hd hD
  wrow_args hpre hlay hrd hwl hlo
  first | refine callC_kw (enter_call ?_) | refine enter_call ?_
  replace hmg : mg (Str.ofString "law") = some (.ref fa) := hmg
  rename_i nx hs0 hlay0 hL1 hr1 hl2 as1 as2 aX vx as3 hX ra w1 r0 iX hr hc1 hc2
  have e1 : mg (Str.ofString "law") = some (.ref 217) := mg_of KX T.g (by k_is)
  have e2 : fa = 217 := by
    rw [hmg] at e1
    cases e1; rfl
  subst e2
  have Bw : Bs w s₁.heap := ⟨KX, ⟨_, T.g⟩, ⟨_, T.b, T.builtins⟩, T.nolimit⟩
  have hz : vx.length ≤ 63 := by rw [iX.length]; omega
  refine codeAny_mono (law_code (nx := nx) rfl callerA_room Bw hX iX hz) ?_
  rintro r s' ⟨rfl, ⟨h', tk, rfl⟩, hk⟩
  refine GoodW.toG ⟨.inl ⟨.bool true, .bool true, [], rfl, fun _ => rfl, .bool true, ?_, fun _ => ⟨.nil, fun a h => by cases h⟩⟩, hk, rfl, hg⟩
  first | kernel_rfl | with_unfolding_all rfl | decide)
end Mine
end
theorem PySem.Challenge.cw_of0070_01_holds : PySem.Challenge.rw_of0070_01.Holds :=
  Mine.whole
