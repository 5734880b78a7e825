import PyProof.Rows.All
import Wide.All
import OpenK.AllK
import Wide.FinOn
import KE.BitLaws
import KE.KOwnIter
import KE.KStopIter
import KE.KTryOn
import PySem.Challenge.RW_op0206_01
set_option Elab.async false
/- WA -/
section
open PySem PySem.W PyProof.Rows
set_option Elab.async false
namespace Mine
set_option maxRecDepth 100000
set_option maxHeartbeats 0
abbrev oL : OpenLaw := PySem.Challenge.rw_op0206_01
abbrev pr : Program := oL.prog
/-- each look by itself -/
theorem b2 {a b : Bool} (h : a = true) (g : b = true) : (a && b) = true := by rw [h, g]; rfl
theorem rd1 : readsOut pr pr.main.body "vars" = false := by decide +kernel
theorem rd2 : readsOut pr pr.main.body "dir" = false := by decide +kernel
theorem rd3 : readsOut pr pr.main.body "locals" = false := by decide +kernel
theorem rd4 : (["vars", "dir", "locals"] : List Str).filter (readsOut pr pr.main.body) = [] := by
  rw [List.filter_cons_of_neg (by rw [rd1]; decide), List.filter_cons_of_neg (by rw [rd2]; decide), List.filter_cons_of_neg (by rw [rd3]; decide)]; rfl
theorem st1' : (!(importedModules pr.main.body).all cThrough.contains) = false := by decide +kernel
theorem k1 : sreFenced pr.main = true := by decide +kernel
theorem k2 : ((moduleNames pr.main.body).isEmpty || lookedIntoSs (moduleNames pr.main.body) pr.main.body) = true := by decide +kernel
theorem k3 : namesResolve pr = true := by decide +kernel
theorem k4 : (pr.boundNames.all fun n => !worldNames.contains n) = true := by decide +kernel
theorem k5 : noRoadLSs { strict := false, foot := none, bare := [] } pr.main.body = true := by decide +kernel
theorem k5' : noRoadLSs { strict := !(importedModules pr.main.body).all cThrough.contains, foot := none, bare := (["vars", "dir", "locals"] : List Str).filter (readsOut pr pr.main.body) } pr.main.body = true := by
  rw [rd4, st1']; exact k5
theorem k6 : (namesMeet pr pr.main.body fun _ n => attrL n) = true := by decide +kernel
theorem lk : looksOpen pr = true := b2 (b2 (b2 (b2 (b2 k1 k2) k3) k4) k5') k6
theorem ps : oL.row.partSaid = true := by
  unfold OpenRow.partSaid
  rw [show oL.row.prog = pr from rfl, lk]
  decide +kernel
theorem wr : oL.row.wellSaid = true := b2 (b2 ps (by decide +kernel)) (by decide +kernel)
theorem v1 : decide (oL.foot ≤ (behindTheImports oL.prog).length) = true := by decide +kernel
theorem v2 : oL.footing.all footLine = true := by decide +kernel
theorem v3 : noClassBlock oL.prog oL.footing = true := by decide +kernel
theorem v4 : oL.most.all (fun n => decide (63 ≤ n)) = true := by decide +kernel
theorem v4' : oL.bound.all (fun n => decide (2 ^ 63 ≤ n)) = true := by decide +kernel
theorem v5 : noRoadLSs { strict := true, foot := some oL.bound', writes := oL.writes, may := oL.may } oL.footing = true := by decide +kernel
theorem v6 : defStands oL.about oL.above = true := by decide +kernel
theorem v7 : oL.namesIt = true := by decide +kernel
theorem v8 : (["type", "isinstance", "issubclass", "getattr", "hasattr"] : List Str).all (fun n => oL.about != [n]) = true := by decide +kernel
theorem v9 : oL.bound'.all (fun n => !builtinNamed n || oL.about == [n] || !oL.reads n) = true := by decide +kernel
theorem v10 : (!oL.writes || (oL.prog.main.body.flatMap importedNames).all fun n => !oL.reads n) = true := by decide +kernel
theorem v11 : ((oL.prog.main.body.flatMap importedNames).all (fun n => !oL.reads n || (drawsOf n oL.prog.main.body).all fun mn => mn.2 != ("attrgetter" : Str) && mn.2 != ("methodcaller" : Str))) = true := by decide +kernel
theorem v12 : (namesMeet oL.prog oL.footing (fun sc n => (!(["type", "isinstance", "issubclass", "getattr", "hasattr"] : List Str).contains n || sc.names.lookup n == some .globalImplicit) &&
    (oL.may != some n || sc.kind == .module || sc.names.lookup n == some .globalImplicit))) = true := by decide +kernel
theorem v13 : oL.own.contains oL.name = true := by decide +kernel
theorem v13' : (oL.own.eraseDups.length == oL.own.length) = true := by decide +kernel
theorem v13'' : (oL.own.all (fun n => !builtinNamed n)) = true := by decide +kernel
theorem v14 : (namesMeet oL.prog oL.above (fun _ n => !oL.own.contains n)) = true := by decide +kernel
theorem v15 : (namesMeet oL.prog oL.footing fun sc n => sc.kind == .module || sc.names.lookup n != some .globalExplicit) = true := by decide +kernel
theorem ws : PySem.Challenge.rw_op0206_01.wellSaid = true := by
  unfold OpenLaw.wellSaid
  exact b2 (b2 (b2 (b2 (b2 (b2 (b2 (b2 (b2 (b2 (b2 (b2 (b2 (b2 (b2 (b2 (b2 (b2 wr v1) v2) v3) v4) v4') v5) v6) v7) v8) v9) v10) v11) v12) v13) v13') v13'') v14) v15
end Mine
end
/- HB -/
section
open PySem PySem.W PyProof.Rows
set_option Elab.async false
set_option linter.unusedVariables false
namespace Mine
section
variable {tb : String → Option Builtin} {p : Program} {w : World} {n₀ : Nat} {ann : Option Value}
/-- the top's run over the tree of objects -/
noncomputable def topRunT (tb : String → Option Builtin) (p : Program) (w : World) (n₀ : Nat) (ann : Option Value) : Nat → SharedT → Thread → Option SharedT
  | 0, _, _ => none
  | n + 1, s, t => match through t with
    | true => some s
    | false => match stepOk n₀ ann t with
      | false => none
      | true => match stepT (denote tb) p w s t with
        | some (s', t') => topRunT tb p w n₀ ann n s' t'
        | none => none
theorem topRun_of : ∀ {n : Nat} {s s' : SharedT} {t : Thread}, topRunT tb p w n₀ ann n s t = some s' → topRun tb p w n₀ ann n s.abs t = some s'.abs
  | 0, _, _, _, h => by cases h
  | n + 1, s, s', t, h => by
    unfold topRunT at h
    unfold topRun
    cases ht : through t with
    | true => rw [ht] at h; cases h; rfl
    | false =>
      rw [ht] at h
      cases hk : stepOk n₀ ann t with
      | false => rw [hk] at h; cases h
      | true =>
        rw [hk] at h
        cases hs : stepT (denote tb) p w s t with
        | none => rw [hs] at h; cases h
        | some r => obtain ⟨s₂, t₂⟩ := r; rw [hs] at h; rw [stepT_spec hs]; exact topRun_of h
/-- objects, one by one, into a tree -/
noncomputable def treeOf : List Obj → Nat → BT → Option BT
  | [], _, t => some t
  | o :: l, n, t => match ((t.ins n o).get n) with
    | some _ => treeOf l (n + 1) (t.ins n o)
    | none => none
theorem treeOf_ok {life : Life} : ∀ {l : List Obj} {n : Nat} {t t' : BT}, treeOf l n t = some t' → absHeap t' (n + l.length) life = ⟨(absHeap t n life).objs ++ l.toArray, life⟩
  | [], n, t, t', h => by simp only [treeOf] at h; cases h; simp; rfl
  | o :: l, n, t, t', h => by
    simp only [treeOf] at h
    split at h
    · rename_i x hx
      have ih := treeOf_ok (life := life) h
      have e := absHeap_ins (t := t) (n := n) (life := life) (o := o) (by rw [hx]; rfl)
      rw [show n + (o :: l).length = n + 1 + l.length by simp; lia, ih, e]
      simp [Heap.push]
    · cases h
theorem treeOf_heap {h : Heap} {t : BT} (e : treeOf h.objs.toList 0 .nil = some t) : absHeap t h.objs.size h.life = h := by
  have := treeOf_ok (life := h.life) e
  simp only [Nat.zero_add, Array.length_toList] at this
  rw [this]
  simp [absHeap, BT.list]
end
end Mine
end
/- HC -/
section
open PySem PySem.W PyProof.Rows
set_option Elab.async false
set_option linter.unusedVariables false
namespace Mine
set_option maxRecDepth 100000
set_option maxHeartbeats 0
/-- the whole top, over the tree; the heap of the opening beside it -/
noncomputable def endT (p : Program) (w : World) (N M : Nat) : Option (SharedT × Shared) :=
  match fencedOpening treeTable p w N with
  | none => none
  | some s₀ => match treeOf s₀.heap.objs.toList 0 .nil with
    | none => none
    | some T => match topRunT treeTable p w s₀.heap.objs.size (s₀.heap.nsMap mainGlobals "__annotations__") M ⟨T, s₀.heap.objs.size, s₀.heap.life, s₀.gens, s₀.drawn, s₀.toks, s₀.os⟩ (topStub p) with
      | none => none
      | some s => some (s, s₀)
noncomputable def looksT (p q : Program) (loose : List Str) (Xt : Shared → Bool) {α : Type} (Yf : Shared → α) (r : SharedT × Shared) :=
  (r.2.heap.isNs mainGlobals && r.2.gens.size == 0, staticsOk (importedModules p.main.body) r.2.heap r.1.abs.heap && namesBound p r.1.abs.heap && gensDone r.1.abs && laidKept r.2.heap r.1.abs.heap,
    openSeen q loose (importedModules p.main.body) Xt true r.1.abs, Yf r.1.abs)
theorem left_of {p q : Program} {loose : List Str} {Xt : Shared → Bool} {α : Type} {Yf : Shared → α} {Ya : World → α} {N M : Nat} (le : M ≤ N)
    (h : ∀ w, (endT p w N M).map (looksT p q loose Xt Yf) = some (true, true, openGood q loose, Ya w)) : LeftO p q loose Xt Yf Ya N := fun w => by
  obtain ⟨⟨s, s₀⟩, e, e'⟩ := Option.map_eq_some_iff.mp (h w)
  obtain ⟨l0, l1, l2, l3⟩ : _ ∧ _ ∧ _ ∧ _ := by simpa only [looksT, Prod.mk.injEq] using e'
  unfold endT at e
  split at e
  · cases e
  · rename_i s₁ hs
    split at e
    · cases e
    · rename_i T hT
      split at e
      · cases e
      · rename_i s₂ hr
        cases e
        have r := topRun_of hr
        have ab : SharedT.abs ⟨T, s₀.heap.objs.size, s₀.heap.life, s₀.gens, s₀.drawn, s₀.toks, s₀.os⟩ = s₀ := by
          unfold SharedT.abs
          rw [treeOf_heap hT]
        rw [ab] at r
        have r := topRun_mono (N - M) _ _ _ _ r
        rw [show M + (N - M) = N by omega] at r
        have t : topFrom treeTable p w N s₀ = some s.abs := by
          unfold topFrom
          rw [l0, r]
          show (match _ with | true => _ | false => _) = _
          rw [l1]
        unfold openEnds
        rw [hs]
        show (topFrom treeTable p w N _).map _ = _
        rw [t]
        exact congrArg some (Prod.ext l2 l3)
end Mine
end
/- M2 -/
section
open PySem PySem.W PyProof.Rows PySem.Calls
set_option Elab.async false
namespace Mine

/-- the abstract values of the pure part -/
inductive AV where
  | none
  | bool (b : Bool)
  | int (i : Int)
  | str (s : Str)
  | bytes (b : List UInt8)
  | typ (n : String)
  | list (xs : List AV)

/-- a list's object -/
noncomputable def lobj (vs : List Value) (n : Nat) : Obj := { cls := .type "list", dict := none, data := .seq vs.toArray n, slots := #[] }
noncomputable def IsL (h : Heap) (a : Addr) (vs : List Value) : Prop := ∃ n, h.get? a = some (lobj vs n)
theorem IsL.isList {h : Heap} {a : Addr} {vs : List Value} (x : IsL h a vs) : h.IsList a vs.toArray := let ⟨n, e⟩ := x; ⟨_, e, rfl, n, rfl⟩

mutual
/-- a value of the machine stands for an abstract one, in a part of the heap -/
inductive Den (φ : Addr → Option Obj) : Value → AV → Prop where
  | none : Den φ .none .none
  | bool (b : Bool) : Den φ (.bool b) (.bool b)
  | int (i : Int) (t : Tok) : Den φ (.int i t) (.int i)
  | str (x : Str) (t : Tok) : Den φ (.str x t) (.str x)
  | bytes (b : Array UInt8) (t : Tok) : Den φ (.bytes b t) (.bytes b.toList)
  | typ (n : String) : Den φ (.type n) (.typ n)
  | list {a : Addr} {vs : List Value} {xs : List AV} {o : Obj} {n : Nat} (h : φ a = some o) (hc : o.cls = .type "list") (hd : o.data = .seq vs.toArray n) (hs : DenAll φ vs xs) : Den φ (.ref a) (.list xs)
inductive DenAll (φ : Addr → Option Obj) : List Value → List AV → Prop where
  | nil : DenAll φ [] []
  | cons {v : Value} {x : AV} {vs : List Value} {xs : List AV} (h : Den φ v x) (hs : DenAll φ vs xs) : DenAll φ (v :: vs) (x :: xs)
end

/-- what is kept up to slots stands for what it stood for -/
noncomputable def UpTo (φ φ' : Addr → Option Obj) : Prop := ∀ a o, φ a = some o → (∀ vs, o.data ≠ .fields vs) → ∃ sl, φ' a = some { o with slots := sl }
theorem UpTo.list {φ φ' : Addr → Option Obj} (k : UpTo φ φ') {a : Addr} {vs : List Value} {xs : List AV} {o : Obj} {n : Nat} (h : φ a = some o) (hc : o.cls = .type "list") (hd : o.data = .seq vs.toArray n) (hs : DenAll φ' vs xs) : Den φ' (.ref a) (.list xs) := by
  obtain ⟨sl, e⟩ := k _ _ h fun vs q => by rw [hd] at q; cases q
  exact .list e hc hd hs
theorem Den.up {φ φ' : Addr → Option Obj} (k : UpTo φ φ') {v : Value} {x : AV} (d : Den φ v x) : Den φ' v x :=
  Den.rec (motive_1 := fun v x _ => Den φ' v x) (motive_2 := fun vs xs _ => DenAll φ' vs xs) .none .bool .int .str .bytes .typ (fun h hc hd _ hs => k.list h hc hd hs) .nil (fun _ _ h hs => .cons h hs) d
theorem DenAll.ind {φ : Addr → Option Obj} {P : List Value → List AV → Prop} (h0 : P [] []) (h1 : ∀ v x vs xs, Den φ v x → P vs xs → P (v :: vs) (x :: xs)) {vs : List Value} {xs : List AV} (d : DenAll φ vs xs) : P vs xs :=
  DenAll.rec (motive_1 := fun _ _ _ => True) (motive_2 := fun vs xs _ => P vs xs) trivial (fun _ => trivial) (fun _ _ => trivial) (fun _ _ => trivial) (fun _ _ => trivial) (fun _ => trivial) (fun _ _ _ _ _ => trivial) h0 (fun h _ _ hs => h1 _ _ _ _ h hs) d
theorem DenAll.up {φ φ' : Addr → Option Obj} (k : UpTo φ φ') {vs : List Value} {xs : List AV} (d : DenAll φ vs xs) : DenAll φ' vs xs :=
  d.ind (P := fun vs xs => DenAll φ' vs xs) .nil fun _ _ _ _ h hs => .cons (h.up k) hs
theorem UpTo.of {φ φ' : Addr → Option Obj} (k : ∀ a o, φ a = some o → φ' a = some o) : UpTo φ φ' := fun a o h _ => ⟨o.slots, k a o h⟩
theorem Den.mono {φ φ' : Addr → Option Obj} (k : ∀ a o, φ a = some o → φ' a = some o) {v : Value} {x : AV} (d : Den φ v x) : Den φ' v x := d.up (.of k)
theorem DenAll.mono {φ φ' : Addr → Option Obj} (k : ∀ a o, φ a = some o → φ' a = some o) {vs : List Value} {xs : List AV} (d : DenAll φ vs xs) : DenAll φ' vs xs := d.up (.of k)

theorem DenAll.length {φ : Addr → Option Obj} {vs : List Value} {xs : List AV} (d : DenAll φ vs xs) : vs.length = xs.length :=
  d.ind (P := fun vs xs => vs.length = xs.length) rfl fun _ _ _ _ _ ih => congrArg (· + 1) ih
theorem DenAll.append {φ : Addr → Option Obj} {vs : List Value} {xs : List AV} {us : List Value} {ys : List AV} (d : DenAll φ vs xs) (q : DenAll φ us ys) : DenAll φ (vs ++ us) (xs ++ ys) :=
  d.ind (P := fun vs xs => DenAll φ (vs ++ us) (xs ++ ys)) q fun _ _ _ _ h ih => .cons h ih
theorem DenAll.nth {φ : Addr → Option Obj} {vs : List Value} {xs : List AV} (d : DenAll φ vs xs) : ∀ i : Nat, (vs[i]? = none ∧ xs[i]? = none) ∨ ∃ v x, vs[i]? = some v ∧ xs[i]? = some x ∧ Den φ v x :=
  d.ind (P := fun vs xs => ∀ i : Nat, (vs[i]? = none ∧ xs[i]? = none) ∨ ∃ v x, vs[i]? = some v ∧ xs[i]? = some x ∧ Den φ v x) (fun i => .inl ⟨rfl, rfl⟩) fun v x _ _ h ih i => by
    cases i with
    | zero => exact .inr ⟨v, x, rfl, rfl, h⟩
    | succ i => exact ih i
theorem DenAll.get {φ : Addr → Option Obj} {vs : List Value} {xs : List AV} (d : DenAll φ vs xs) {i : Nat} {x : AV} (e : xs[i]? = some x) : ∃ v, vs[i]? = some v ∧ Den φ v x := by
  rcases d.nth i with ⟨_, h⟩ | ⟨v, y, h1, h2, h3⟩
  · rw [h] at e; cases e
  · rw [h2] at e; cases e; exact ⟨v, h1, h3⟩
theorem DenAll.get' {φ : Addr → Option Obj} {vs : List Value} {xs : List AV} (d : DenAll φ vs xs) {i : Nat} {v : Value} (e : vs[i]? = some v) : ∃ x, xs[i]? = some x ∧ Den φ v x := by
  rcases d.nth i with ⟨h, _⟩ | ⟨u, y, h1, h2, h3⟩
  · rw [h] at e; cases e
  · rw [h1] at e; cases e; exact ⟨y, h2, h3⟩

/-- the heap without some addresses -/
noncomputable def vw (h : Heap) (hid : List Addr) : Addr → Option Obj := fun b => if b ∈ hid then none else h.get? b
theorem vw_mono {h h' : Heap} {hid hid' : List Addr} (k : ∀ b o, h.get? b = some o → h'.get? b = some o) (s : ∀ b, b ∈ hid' → b ∈ hid) : ∀ a o, vw h hid a = some o → vw h' hid' a = some o := by
  intro a o e
  unfold vw at e ⊢
  by_cases q : a ∈ hid
  · rw [if_pos q] at e; cases e
  · rw [if_neg q] at e
    rw [if_neg fun z => q (s a z)]
    exact k a o e

/-- a frame's names; the one list that the frame itself changes -/
structure FS where
  l : List (Str × AV)
  o : Option (Str × List AV)

noncomputable def FS.get (f : FS) (x : Str) : Option AV := match f.o with
  | some (y, xs) => if x = y then some (.list xs) else f.l.lookup x
  | none => f.l.lookup x
noncomputable def FS.noOwn (f : FS) : FS := ⟨f.l, none⟩
noncomputable def FS.put (f : FS) (x : Str) (v : AV) : FS := ⟨(x, v) :: f.l, match f.o with | some (y, xs) => if y = x then none else some (y, xs) | none => none⟩
noncomputable def FS.putOwn (f : FS) (x : Str) (xs : List AV) : FS := ⟨f.l.filter (fun p => !(p.1 == x)), some (x, xs)⟩

/-- what is hidden stands -/
noncomputable def Live (hid : List Addr) (h : Heap) : Prop := ∀ b ∈ hid, ∃ o, h.get? b = some o
theorem Live.keeps {hid : List Addr} {h h' : Heap} (x : Live hid h) (k : ∀ b o, h.get? b = some o → h'.get? b = some o) : Live hid h' := fun b hb => let ⟨o, e⟩ := x b hb; ⟨o, k b o e⟩
theorem Live.fresh {hid : List Addr} {h : Heap} (x : Live hid h) {a : Addr} (e : h.get? a = none) : a ∉ hid := fun hb => by
  obtain ⟨o, q⟩ := x a hb
  rw [e] at q; cases q
theorem vw_get {h : Heap} {hid : List Addr} {a : Addr} (n : a ∉ hid) : vw h hid a = h.get? a := by unfold vw; rw [if_neg n]
theorem vw_some {h : Heap} {hid : List Addr} {a : Addr} {o : Obj} (e : vw h hid a = some o) : h.get? a = some o ∧ a ∉ hid := by
  unfold vw at e
  by_cases q : a ∈ hid
  · rw [if_pos q] at e; cases e
  · rw [if_neg q] at e; exact ⟨e, q⟩

/-- the frame at L: its names, and its own list at oa -/
structure FrameW (g : Heap) (hid : List Addr) (L : Addr) (oa : Option Addr) (f : FS) (h : Heap) : Prop where
  live : Live hid h
  out : L ∉ hid
  top : ∀ b o, g.get? b = some o → h.get? b = some o
  ns : ∃ m, h.Ns L m ∧ match f.o, oa with
    | none, none => ∀ x v, f.l.lookup x = some v → ∃ u, m x = some u ∧ Den (vw h (L :: hid)) u v
    | some (y, xs), some a => g.get? a = none ∧ a ∉ L :: hid ∧ m y = some (.ref a) ∧ ∃ vs, IsL h a vs ∧ DenAll (vw h (a :: L :: hid)) vs xs ∧
        ∀ x v, f.l.lookup x = some v → ∃ u, m x = some u ∧ Den (vw h (a :: L :: hid)) u v
    | _, _ => False
/-- the frame of a function: it is none of the top's objects -/
structure FrameAt (g : Heap) (hid : List Addr) (L : Addr) (oa : Option Addr) (f : FS) (h : Heap) : Prop extends FrameW g hid L oa f h where
  newL : g.get? L = none

theorem kp_refl (s : Shared) : Keeps s s := ⟨s.heap, s.toks, rfl, fun _ _ e => e⟩
theorem kp_trans {s s' s'' : Shared} (a : Keeps s s') (b : Keeps s' s'') : Keeps s s'' := by
  obtain ⟨h, t, rfl, k⟩ := a
  obtain ⟨h', t', rfl, k'⟩ := b
  exact ⟨h', t', rfl, fun x o e => k' x o (k x o e)⟩
theorem kp_heap {s s' : Shared} (a : Keeps s s') : ∀ b o, s.heap.get? b = some o → s'.heap.get? b = some o := by
  obtain ⟨h, t, rfl, k⟩ := a
  exact k
theorem kp_tok {s : Shared} (t : Nat) : Keeps s { s with toks := t } := ⟨s.heap, t, rfl, fun _ _ e => e⟩

theorem isList_keeps {h h' : Heap} {a : Addr} {vs : List Value} (x : IsL h a vs) (k : ∀ b o, h.get? b = some o → h'.get? b = some o) : IsL h' a vs := let ⟨n, e⟩ := x; ⟨n, k a _ e⟩

theorem FrameW.ex {g : Heap} {hid : List Addr} {L : Addr} {oa : Option Addr} {f : FS} {s s' : Shared} (F : FrameW g hid L oa f s.heap) (x : Keeps s s') : FrameW g hid L oa f s'.heap := by
  obtain ⟨m, hm, hl⟩ := F.ns
  have k := kp_heap x
  refine ⟨F.live.keeps k, F.out, fun b o e => k b o (F.top b o e), m, hm.keeps k, ?_⟩
  cases ho : f.o with
  | none =>
    cases oa with
    | some a => rw [ho] at hl; exact hl.elim
    | none =>
      rw [ho] at hl
      intro y v e
      obtain ⟨u, hu, d⟩ := hl y v e
      exact ⟨u, hu, d.mono (vw_mono k fun _ z => z)⟩
  | some p =>
    obtain ⟨y, xs⟩ := p
    cases oa with
    | none => rw [ho] at hl; exact hl.elim
    | some a =>
      rw [ho] at hl
      obtain ⟨h0, h1, h2, vs, h3, h4, h5⟩ := hl
      refine ⟨h0, h1, h2, vs, isList_keeps h3 k, h4.mono (vw_mono k fun _ z => z), fun z v e => ?_⟩
      obtain ⟨u, hu, d⟩ := h5 z v e
      exact ⟨u, hu, d.mono (vw_mono k fun _ z => z)⟩

theorem FrameAt.ex {g : Heap} {hid : List Addr} {L : Addr} {oa : Option Addr} {f : FS} {s s' : Shared} (F : FrameAt g hid L oa f s.heap) (x : Keeps s s') : FrameAt g hid L oa f s'.heap := ⟨F.toFrameW.ex x, F.newL⟩

theorem Den.of_list {h : Heap} {hid : List Addr} {a : Addr} {vs : List Value} {xs : List AV} (n : a ∉ hid) (x : h.IsList a vs.toArray) (d : DenAll (vw h hid) vs xs) : Den (vw h hid) (.ref a) (.list xs) := by
  obtain ⟨o, e, c, k, dd⟩ := x
  exact .list (by rw [vw_get n]; exact e) c dd d

theorem FrameW.get {g : Heap} {hid : List Addr} {L : Addr} {oa : Option Addr} {f : FS} {h : Heap} (F : FrameW g hid L oa f h) {x : Str} {v : AV} (e : f.get x = some v) : ∃ m u, h.Ns L m ∧ m x = some u ∧ Den (vw h (L :: hid)) u v := by
  obtain ⟨m, hm, hl⟩ := F.ns
  unfold FS.get at e
  cases ho : f.o with
  | none =>
    cases oa with
    | some a => rw [ho] at hl; exact hl.elim
    | none =>
      rw [ho] at hl e
      obtain ⟨u, hu, d⟩ := hl x v e
      exact ⟨m, u, hm, hu, d⟩
  | some p =>
    obtain ⟨y, xs⟩ := p
    cases oa with
    | none => rw [ho] at hl; exact hl.elim
    | some a =>
      rw [ho] at hl e
      obtain ⟨h0, h1, h2, vs, h3, h4, h5⟩ := hl
      dsimp only at e
      by_cases q : x = y
      · rw [if_pos q] at e
        cases e
        exact ⟨m, .ref a, hm, q ▸ h2, Den.of_list h1 h3.isList (h4.mono (vw_mono (fun _ _ e => e) fun b hb => List.mem_cons_of_mem _ hb))⟩
      · rw [if_neg q] at e
        obtain ⟨u, hu, d⟩ := h5 x v e
        exact ⟨m, u, hm, hu, d.mono (vw_mono (fun _ _ e => e) fun b hb => List.mem_cons_of_mem _ hb)⟩

/-- the frame without its own list: that list is hidden -/
theorem FrameAt.noOwn {g : Heap} {hid : List Addr} {L : Addr} {oa : Option Addr} {f : FS} {h : Heap} (F : FrameAt g hid L oa f h) : FrameAt g (oa.toList ++ hid) L none f.noOwn h := by
  obtain ⟨m, hm, hl⟩ := F.ns
  cases ho : f.o with
  | none =>
    cases oa with
    | some a => rw [ho] at hl; exact hl.elim
    | none =>
      rw [ho] at hl
      exact ⟨⟨F.live, F.out, F.top, m, hm, hl⟩, F.newL⟩
  | some p =>
    obtain ⟨y, xs⟩ := p
    cases oa with
    | none => rw [ho] at hl; exact hl.elim
    | some a =>
      rw [ho] at hl
      obtain ⟨h0, h1, h2, vs, h3, h4, h5⟩ := hl
      refine ⟨⟨fun b hb => ?_, fun hb => ?_, F.top, m, hm, fun x v e => ?_⟩, F.newL⟩
      · rcases List.mem_cons.mp hb with rfl | hb
        · obtain ⟨n, e⟩ := h3; exact ⟨_, e⟩
        · exact F.live b hb
      · rcases List.mem_cons.mp hb with e | hb
        · exact h1 (e ▸ List.mem_cons_self ..)
        · exact F.out hb
      · obtain ⟨u, hu, d⟩ := h5 x v e
        refine ⟨u, hu, d.mono (vw_mono (fun _ _ e => e) fun b hb => ?_)⟩
        simp only [Option.toList, List.cons_append, List.nil_append, List.mem_cons] at hb ⊢
        rcases hb with h | h | h
        · exact .inr (.inl h)
        · exact .inl h
        · exact .inr (.inr h)

end Mine
end
/- M3 -/
section
open PySem PySem.W PyProof.Rows PySem.Calls
set_option Elab.async false
set_option linter.unusedVariables false
namespace Mine

structure Fn where
  a : Addr
  fd : FuncData
  ps : List Str
  body : List Stmt

structure Tab where
  fn : Str → Option Fn
  val : Str → Option AV
  nat : Str → Option (Addr × (List AV → Option AV))

inductive Out where
  | next (f : FS)
  | brk (f : FS)
  | cont (f : FS)
  | ret (v : AV)

noncomputable def two64 : Nat := 18446744073709551616
noncomputable def bigN : Nat := 1606938044258990275541962092341162602522202993782792835301376

/-- a run with open questions -/
inductive Qt (α : Type) where
  | fail
  | done (a : α)
  | ask (c : Bool) (t e : Qt α)
  | need (c : Bool) (t : Qt α)
  | look (o : Option Int) (k : Int → Qt α)
  | lookS (o : Option Str) (k : Str → Qt α)
noncomputable def Qt.val {α : Type} : Qt α → Option α
  | fail => none
  | done a => some a
  | ask c t e => bif c then t.val else e.val
  | need c t => bif c then t.val else none
  | look o k => match o with | some i => (k i).val | none => none
  | lookS o k => match o with | some i => (k i).val | none => none
noncomputable def ofO {α β : Type} (o : Option α) (k : α → Qt β) : Qt β := match o with | some a => k a | none => .fail
section
variable {α β : Type} {r : α}
theorem val_need {c : Bool} {t : Qt α} (h : (Qt.need c t).val = some r) : c = true ∧ t.val = some r := by
  cases c with
  | true => exact ⟨rfl, h⟩
  | false => cases h
theorem val_ask {c : Bool} {t e : Qt α} (h : (Qt.ask c t e).val = some r) : (c = true ∧ t.val = some r) ∨ (c = false ∧ e.val = some r) := by
  cases c with
  | true => exact .inl ⟨rfl, h⟩
  | false => exact .inr ⟨rfl, h⟩
theorem val_look {o : Option Int} {k : Int → Qt α} (h : (Qt.look o k).val = some r) : ∃ i, o = some i ∧ (k i).val = some r := by
  cases o with
  | some i => exact ⟨i, rfl, h⟩
  | none => cases h
theorem val_lookS {o : Option Str} {k : Str → Qt α} (h : (Qt.lookS o k).val = some r) : ∃ i, o = some i ∧ (k i).val = some r := by
  cases o with
  | some i => exact ⟨i, rfl, h⟩
  | none => cases h
theorem val_ofO {o : Option β} {k : β → Qt α} (h : (ofO o k).val = some r) : ∃ b, o = some b ∧ (k b).val = some r := by
  cases o with
  | some b => exact ⟨b, rfl, h⟩
  | none => cases h
theorem val_if {c : Prop} [Decidable c] {t : Qt α} (h : (if c then t else .fail).val = some r) : c ∧ t.val = some r := by
  by_cases q : c
  · rw [if_pos q] at h; exact ⟨q, h⟩
  · rw [if_neg q] at h; cases h
theorem val_cond {c : Bool} {t e : Qt α} (h : (cond c t e).val = some r) : (c = true ∧ t.val = some r) ∨ (c = false ∧ e.val = some r) := by
  cases c with
  | true => exact .inl ⟨rfl, h⟩
  | false => exact .inr ⟨rfl, h⟩
end
/-- the only one -/
noncomputable def one {α : Type} : List α → Option α
  | [] => none
  | a :: r => match r with | [] => some a | _ :: _ => none
theorem one_ok {α : Type} {l : List α} {a : α} (h : one l = some a) : l = [a] := by
  cases l with
  | nil => cases h
  | cons b r =>
    cases r with
    | nil => cases h; rfl
    | cons _ _ => cases h

noncomputable def intOf : AV → Option Int
  | .int i => some i
  | _ => none
noncomputable def strOf' : AV → Option Str
  | .str i => some i
  | _ => none
theorem intOf_ok {a : AV} {i : Int} (h : intOf a = some i) : a = .int i := by
  cases a <;> cases h; rfl
theorem strOf'_ok {a : AV} {i : Str} (h : strOf' a = some i) : a = .str i := by
  cases a <;> cases h; rfl
/-- two whole numbers -/
noncomputable def int2 {α : Type} (a b : AV) (k : Int → Int → Qt α) : Qt α := ofO (intOf a) fun i => ofO (intOf b) fun j => k i j
theorem int2_ok {α : Type} {a b : AV} {k : Int → Int → Qt α} {r : α} (h : (int2 a b k).val = some r) : ∃ i j, a = .int i ∧ b = .int j ∧ (k i j).val = some r := by
  obtain ⟨i, hi, h⟩ := val_ofO h
  obtain ⟨j, hj, h⟩ := val_ofO h
  exact ⟨i, j, intOf_ok hi, intOf_ok hj, h⟩
noncomputable def binT {α : Type} (op : Operator) (a b : AV) (k : AV → Qt α) : Qt α := match op with
  | .Add => (match a with
    | .str x => ofO (strOf' b) fun y => .need (decide (x.length + y.length ≤ 1048576)) (k (.str (x ++ y)))
    | .list xs => (match b with
      | .list ys => .need (decide (xs.length + ys.length ≤ 1048576)) (k (.list (xs ++ ys)))
      | _ => .fail)
    | a => int2 a b fun i j => k (.int (i + j)))
  | .Sub => int2 a b fun i j => k (.int (i - j))
  | .Mult => (match a with
    | .list xs => ofO (intOf b) fun i => .need (decide (0 ≤ i ∧ i ≤ 1000 ∧ xs.length ≤ 1000)) (k (.list (List.replicate i.toNat xs).flatten))
    | a => int2 a b fun i j => .need (decide (i.natAbs < two64)) (k (.int (i * j))))
  | .FloorDiv => int2 a b fun i j => .need (decide (j ≠ 0 ∧ j.natAbs < bigN)) (k (.int (i.fdiv j)))
  | .Mod => int2 a b fun i j => .need (decide (j ≠ 0)) (k (.int (i.fmod j)))
  | .LShift => int2 a b fun i j => .need (decide (0 ≤ j ∧ j ≤ 1000000)) (.need (decide (i.natAbs < two64)) (k (.int (i * 2 ^ j.toNat))))
  | .RShift => int2 a b fun i j => .need (decide (0 ≤ j)) (k (.int (i.fdiv (2 ^ j.toNat))))
  | .Pow => int2 a b fun i j => .need (decide (0 ≤ j ∧ j ≤ 1000000)) (.need (decide (i.natAbs < two64)) (k (.int (i ^ j.toNat))))
  | .BitAnd => int2 a b fun i j => k (.int (Builtin.bitAnd i j))
  | .BitOr => int2 a b fun i j => k (.int (Builtin.bitOr i j))
  | _ => .fail

noncomputable def intsOf : List AV → Option (List Int)
  | [] => some []
  | a :: r => (intOf a).bind fun i => (intsOf r).bind fun l => some (i :: l)
noncomputable def ltL : List Int → List Int → Bool
  | [], [] => false
  | [], _ :: _ => true
  | _ :: _, [] => false
  | a :: x, b :: y => if a = b then ltL x y else decide (a < b)

noncomputable def cmpI (op : CmpOp) (a b : Int) : Option Bool := match op with
  | .Lt => some (decide (a < b))
  | .LtE => some (decide (a ≤ b))
  | .Gt => some (decide (a > b))
  | .GtE => some (decide (a ≥ b))
  | .Eq => some (a == b)
  | .NotEq => some (a != b)
  | _ => none
noncomputable def cmpL (op : CmpOp) (x y : List Int) : Option Bool := match op with
  | .Lt => some (ltL x y)
  | .Eq => some (x == y)
  | .NotEq => some (x != y)
  | _ => none
noncomputable def cmpB (op : CmpOp) (a b : Bool) : Option Bool := match op with
  | .Eq => some (a == b)
  | .NotEq => some (a != b)
  | _ => none
noncomputable def isEqOp : CmpOp → Bool
  | .Eq => true
  | _ => false
noncomputable def isIsOp : CmpOp → Bool
  | .Is => true
  | _ => false
noncomputable def isIsNotOp : CmpOp → Bool
  | .IsNot => true
  | _ => false
noncomputable def lstOf : AV → Option (List AV)
  | .list xs => some xs
  | _ => none
theorem lstOf_ok {a : AV} {b : List AV} (h : lstOf a = some b) : a = .list b := by
  cases a <;> cases h; rfl
/-- a type's name -/
noncomputable def typOf : AV → Option String
  | .typ m => some m
  | _ => none
theorem typOf_ok {a : AV} {i : String} (h : typOf a = some i) : a = .typ i := by
  cases a <;> cases h; rfl
noncomputable def isNoneA : AV → Bool
  | .none => true
  | _ => false
theorem isNoneA_ok {a : AV} (h : isNoneA a = true) : a = .none := by
  cases a <;> first | rfl | cases h
/-- is, or is not, None: a is None or not -/
noncomputable def isNn (op : CmpOp) (b : AV) (c : Bool) : Option Bool := if isNoneA b = true then (if isIsOp op = true then some c else if isIsNotOp op = true then some (!c) else none) else none
noncomputable def cmp (op : CmpOp) (a b : AV) : Option Bool := match a with
  | .int x => (intOf b).bind fun y => cmpI op x y
  | .list xs => (lstOf b).bind fun ys => (intsOf xs).bind fun x => (intsOf ys).bind fun y => cmpL op x y
  | .bool x => (match b with
    | .bool y => cmpB op x y
    | b => isNn op b false)
  | .str x => (strOf' b).bind fun y => if isEqOp op = true then some (x == y) else none
  | .typ x => (typOf b).bind fun y => if isIsOp op = true then some (x == y) else none
  | .none => isNn op b true
  | .bytes _ => isNn op b false

noncomputable def truth : AV → Option Bool
  | .bool b => some b
  | .int i => some (i != 0)
  | .none => some false
  | _ => none

noncomputable def constAV : Const → Option AV
  | .none => some .none
  | .bool b => some (.bool b)
  | .int i => some (.int i)
  | .str s => some (.str s)
  | .bytes b => some (.bytes b)
  | _ => none

/-- an item at an index in bounds -/
noncomputable def item (a b : AV) : Option AV := match intOf b with
  | none => none
  | some i => (match a with
    | .list xs => if 0 ≤ i ∧ i < 1048576 then xs[i.toNat]? else none
    | .bytes b => if 0 ≤ i ∧ b.length ≤ 1048576 then (match b[i.toNat]? with | some x => some (.int x.toNat) | none => none) else none
    | .str x => if 0 ≤ i ∧ i < 1048576 then (match x.cps[i.toNat]? with | some c => some (.str ⟨#[c]⟩) | none => none) else none
    | _ => none)
noncomputable def itemI (a b : AV) : Option Int := match item a b with | some v => intOf v | none => none
noncomputable def itemS (a b : AV) : Option Str := match item a b with | some v => strOf' v | none => none
noncomputable def itemT {α : Type} (q : Bool) (a b : AV) (k : AV → Qt α) : Qt α := cond q (match a with
  | .list xs => .look (itemI (.list xs) b) fun i => k (.int i)
  | .bytes xs => .look (itemI (.bytes xs) b) fun i => k (.int i)
  | .str x => .lookS (itemS (.str x) b) fun i => k (.str i)
  | _ => .fail) (ofO (item a b) k)
theorem itemI_ok {a b : AV} {i : Int} (h : itemI a b = some i) : item a b = some (.int i) := by
  unfold itemI at h
  cases q : item a b with
  | none => rw [q] at h; cases h
  | some v => rw [q] at h; rw [intOf_ok h]
theorem itemS_ok {a b : AV} {i : Str} (h : itemS a b = some i) : item a b = some (.str i) := by
  unfold itemS at h
  cases q : item a b with
  | none => rw [q] at h; cases h
  | some v => rw [q] at h; rw [strOf'_ok h]
theorem itemT_ok {α : Type} {q : Bool} {a b : AV} {k : AV → Qt α} {r : α} (h : (itemT q a b k).val = some r) : ∃ v, item a b = some v ∧ (k v).val = some r := by
  rcases val_cond h with ⟨_, h⟩ | ⟨_, h⟩
  · cases a with
    | list xs => obtain ⟨i, h1, h2⟩ := val_look h; exact ⟨_, itemI_ok h1, h2⟩
    | bytes xs => obtain ⟨i, h1, h2⟩ := val_look h; exact ⟨_, itemI_ok h1, h2⟩
    | str xs => obtain ⟨i, h1, h2⟩ := val_lookS h; exact ⟨_, itemS_ok h1, h2⟩
    | _ => cases h
  · exact val_ofO h
noncomputable def cut : AV → Int → Int → Option AV
  | .list xs, i, j => if 0 ≤ i ∧ i ≤ j ∧ xs.length ≤ 1048576 then some (.list ((xs.drop i.toNat).take (j.toNat - i.toNat))) else none
  | _, _, _ => none

/-- the built-ins that are called by name -/
noncomputable def bltVal (x : Str) : Option Value :=
  if x = "len" then some (.builtin "len") else if x = "min" then some (.builtin "min") else if x = "chr" then some (.builtin "chr")
  else if x = "bytes" then some (.type "bytes") else if x = "type" then some (.type "type") else if x = "range" then some (.type "range") else none
noncomputable def lenT {α : Type} (a : AV) (k : AV → Qt α) : Qt α := match a with
  | .list xs => .need (decide (xs.length ≤ 1048576)) (k (.int xs.length))
  | .bytes xs => .need (decide (xs.length ≤ 1048576)) (k (.int xs.length))
  | _ => .fail
noncomputable def chrT {α : Type} (a : AV) (k : AV → Qt α) : Qt α := ofO (intOf a) fun i => .need (decide (0 ≤ i ∧ i < 128)) (k (.str ⟨#[i.toNat]⟩))
noncomputable def bytesT {α : Type} (a : AV) (k : AV → Qt α) : Qt α := match a with
  | .list xs => ofO (intsOf xs) fun ns => .need (ns.all fun n => decide (0 ≤ n ∧ n < 256)) (.need (decide (ns.length ≤ 1048576)) (k (.bytes (ns.map fun n => n.toNat.toUInt8))))
  | _ => .fail
noncomputable def typeT {α : Type} (a : AV) (k : AV → Qt α) : Qt α := match a with
  | .bytes _ => k (.typ "bytes")
  | .bool _ => k (.typ "bool")
  | _ => .fail
/-- the built-in functions that are called by name -/
noncomputable def bltT {α : Type} (name : Str) (args : List AV) (k : AV → Qt α) : Qt α :=
  if name = "min" then (match args with
    | [] => .fail
    | a :: r => ofO (one r) fun b => int2 a b fun i j => k (.int (min i j)))
  else ofO (one args) fun a => if name = "len" then lenT a k else if name = "chr" then chrT a k else if name = "bytes" then bytesT a k else if name = "type" then typeT a k else .fail

noncomputable def rangeL (a b c : Int) : List AV := (List.range (Builtin.Range.rangeSize a b c).toNat).map fun (i : Nat) => .int (a + i * c)

noncomputable def flat : AV → Bool
  | .list _ => false
  | _ => true
theorem obind {α β : Type} {o : Option α} {k : α → Option β} {r : β} (h : o.bind k = some r) : ∃ a, o = some a ∧ k a = some r := by
  cases o with
  | none => cases h
  | some a => exact ⟨a, rfl, h⟩
/-- what is so of the one that is there -/
noncomputable def onSome {α : Type} (o : Option α) (p : α → Prop) : Prop := match o with | some a => p a | none => True
theorem onSome.ok {α : Type} {o : Option α} {p : α → Prop} {a : α} (h : onSome o p) (e : o = some a) : p a := by subst e; exact h
/-- what a target names -/
noncomputable def nameOf : Expr → Option Str
  | .Name x _ => some x
  | _ => none
theorem nameOf_ok {e : Expr} {x : Str} : nameOf e = some x → ∃ p, e = .Name x p :=
  onSome.ok (p := fun x => ∃ p, e = .Name x p) (by cases e with
    | Name x p => exact ⟨p, rfl⟩
    | _ => exact trivial)
noncomputable def listOf : Expr → Option (List Expr)
  | .List es _ => some es
  | _ => none
theorem listOf_ok {e : Expr} {es : List Expr} : listOf e = some es → ∃ p, e = .List es p :=
  onSome.ok (p := fun es => ∃ p, e = .List es p) (by cases e with
    | List es p => exact ⟨p, rfl⟩
    | _ => exact trivial)
theorem len_0 {α : Type} {l : List α} (h : l.length = 0) : l = [] := List.length_eq_zero_iff.mp h
theorem len_succ {α : Type} {l : List α} {n : Nat} (h : l.length = n + 1) : ∃ a r, l = a :: r ∧ r.length = n := by
  cases l with
  | nil => cases h
  | cons a r => exact ⟨a, r, rfl, Nat.succ.inj h⟩
theorem isEmpty_ok {α : Type} {l : List α} (h : l.isEmpty = true) : l = [] := by
  cases l with
  | nil => rfl
  | cons _ _ => cases h
noncomputable def isNil (e : Expr) : Bool := match listOf e with
  | some es => es.isEmpty
  | none => false
theorem isNil_ok {e : Expr} (h : isNil e = true) : ∃ p, e = .List [] p := by
  unfold isNil at h
  cases q : listOf e with
  | none => rw [q] at h; cases h
  | some es => rw [q] at h; rw [isEmpty_ok h] at q; exact listOf_ok q
noncomputable def attOf : Expr → Option (Expr × Str × Pos)
  | .Attribute o m ap => some (o, m, ap)
  | _ => none
theorem attOf_ok {e : Expr} {q : Expr × Str × Pos} : attOf e = some q → e = .Attribute q.1 q.2.1 q.2.2 :=
  onSome.ok (p := fun (q : Expr × Str × Pos) => e = .Attribute q.1 q.2.1 q.2.2) (by cases e with
    | Attribute o m ap => exact rfl
    | _ => exact trivial)
noncomputable def callOf : Expr → Option (Expr × List Expr × List Keyword × Pos)
  | .Call fn args kws p => some (fn, args, kws, p)
  | _ => none
theorem callOf_ok {e : Expr} {q : Expr × List Expr × List Keyword × Pos} : callOf e = some q → e = .Call q.1 q.2.1 q.2.2.1 q.2.2.2 :=
  onSome.ok (p := fun (q : Expr × List Expr × List Keyword × Pos) => e = .Call q.1 q.2.1 q.2.2.1 q.2.2.2) (by cases e with
    | Call fn args kws p => exact rfl
    | _ => exact trivial)
/-- a method of a name, called with one argument, all in one line -/
noncomputable def methOf (e : Expr) : Option (Str × Str × Expr) := (callOf e).bind fun c => (attOf c.1).bind fun o => (nameOf o.1).bind fun x => (one c.2.1).bind fun a => if c.2.2.1.isEmpty = true ∧ (o.2.2.endLine == c.2.2.2.line) = true then some (x, o.2.1, a) else none
section
variable {α : Type} {r : α}
theorem oif {c : Prop} [Decidable c] {t : Option α} (h : (if c then t else none) = some r) : c ∧ t = some r := by
  by_cases q : c
  · rw [if_pos q] at h; exact ⟨q, h⟩
  · rw [if_neg q] at h; cases h
theorem oite {c : Prop} [Decidable c] {t e : Option α} (h : (if c then t else e) = some r) : (c ∧ t = some r) ∨ (¬ c ∧ e = some r) := by
  by_cases q : c
  · rw [if_pos q] at h; exact .inl ⟨q, h⟩
  · rw [if_neg q] at h; exact .inr ⟨q, h⟩
theorem ocond {c : Bool} {t e : Option α} (h : cond c t e = some r) : (c = true ∧ t = some r) ∨ (c = false ∧ e = some r) := by
  cases c with
  | true => exact .inl ⟨rfl, h⟩
  | false => exact .inr ⟨rfl, h⟩
theorem osome {a : α} (h : some a = some r) : a = r := by cases h; rfl
end
theorem methOf_ok {e : Expr} {q : Str × Str × Expr} (h : methOf e = some q) : ∃ px ap cp, e = .Call (.Attribute (.Name q.1 px) q.2.1 ap) [q.2.2] [] cp ∧ (ap.endLine == cp.line) = true := by
  obtain ⟨⟨fn, args, kws, cp⟩, h1, h⟩ := obind h
  obtain ⟨⟨o, m', ap⟩, h2, h⟩ := obind h
  obtain ⟨x', h3, h⟩ := obind h
  obtain ⟨a', h4, h⟩ := obind h
  obtain ⟨⟨q1, q2⟩, h⟩ := oif h
  cases osome h
  obtain ⟨px, e3⟩ := nameOf_ok h3
  exact ⟨px, ap, cp, (callOf_ok h1).trans (by rw [attOf_ok h2, show o = _ from e3, one_ok h4, isEmpty_ok q1]), q2⟩
/-- the expressions that are run -/
noncomputable def isEv : Expr → Bool
  | .Constant .. => true
  | .Name .. => true
  | .BinOp .. => true
  | .UnaryOp .. => true
  | .Compare .. => true
  | .IfExp .. => true
  | .List .. => true
  | .Subscript .. => true
  | .Call .. => true
  | _ => false
/-- a call of a name with arguments -/
noncomputable def gcall (e : Expr) : Option (Str × Expr × List Expr) := (callOf e).bind fun c => (nameOf c.1).bind fun g => match c.2.1 with
  | [] => none
  | e :: es => if c.2.2.1.isEmpty = true ∧ (e :: es).all isEv = true then some (g, e, es) else none
theorem gcall_ok {e : Expr} {q : Str × Expr × List Expr} (h : gcall e = some q) : (∃ px cp, e = .Call (.Name q.1 px) (q.2.1 :: q.2.2) [] cp) ∧ (q.2.1 :: q.2.2).all isEv = true := by
  obtain ⟨⟨fn, args, kws, cp⟩, h1, h⟩ := obind h
  obtain ⟨x, h2, h⟩ := obind h
  obtain ⟨px, e2⟩ := nameOf_ok h2
  cases args with
  | nil => cases h
  | cons e' es =>
    obtain ⟨⟨q1, q2⟩, h⟩ := oif h
    cases osome h
    exact ⟨⟨px, cp, (callOf_ok h1).trans (by rw [show fn = _ from e2, isEmpty_ok q1])⟩, q2⟩
/-- a call of range -/
noncomputable def rangeOf (e : Expr) : Option (Expr × List Expr) := (gcall e).bind fun q => if q.1 = "range" then some q.2 else none
theorem rangeOf_ok {e : Expr} {q : Expr × List Expr} (h : rangeOf e = some q) : (∃ px cp, e = .Call (.Name "range" px) (q.1 :: q.2) [] cp) ∧ (q.1 :: q.2).all isEv = true := by
  obtain ⟨⟨g, a', as'⟩, h1, h⟩ := obind h
  obtain ⟨q1, h⟩ := oif h
  cases osome h
  cases show g = "range" from q1
  exact gcall_ok h1
/-- a slice with an upper end and no step -/
noncomputable def sliceOf : Expr → Option (Option Expr × Expr)
  | .Slice lo up st _ => (match st with
    | none => up.bind fun up => some (lo, up)
    | some _ => none)
  | _ => none
theorem sliceOf_ok {e : Expr} {q : Option Expr × Expr} : sliceOf e = some q → ∃ p, e = .Slice q.1 (some q.2) none p :=
  onSome.ok (p := fun (q : Option Expr × Expr) => ∃ p, e = .Slice q.1 (some q.2) none p) (by cases e with
    | Slice lo up st p => cases st with
      | some _ => exact trivial
      | none => cases up with
        | none => exact trivial
        | some _ => exact ⟨p, rfl⟩
    | _ => exact trivial)
noncomputable def noSlice : Expr → Bool
  | .Slice _ _ st _ => st.isSome
  | _ => true
noncomputable def isNm : Expr → Bool
  | .Name _ _ => true
  | _ => false
noncomputable def setL (x : Str) (v : AV) : List (Str × AV) → List (Str × AV)
  | [] => [(x, v)]
  | p :: r => if (x == p.1) = true then (x, v) :: r else p :: setL x v r
noncomputable def FS.set (f : FS) (x : Str) (v : AV) : FS := ⟨setL x v f.l, (f.put x v).o⟩
noncomputable def natT {α : Type} (T : Tab) (n : Nat) (g : Str) (xs : List AV) (k : AV → Qt α) : Qt α := match T.nat g with
  | some p => if 100 ≤ n then ofO (p.2 xs) k else .fail
  | none => bltT g xs k
/-- a name that can be called -/
noncomputable def canG (T : Tab) (g : Str) : Bool := (T.fn g).isSome || ((T.nat g).isSome || (match T.val g with
  | none => (bltVal g).isSome
  | some v => (match typOf v with
    | some m => decide (bltVal g = some (.type m))
    | none => false)))
noncomputable def nameT {α : Type} (T : Tab) (sc : Scope) (x : Str) (f : FS) (k : AV → Qt α) : Qt α :=
  if sc.names.lookup x = some .local then (if (x == "__debug__") = true then .fail else ofO (f.get x) k) else if sc.names.lookup x = some .globalImplicit then ofO (T.val x) k else .fail
/-- the ends of a range -/
noncomputable def rangeArgs : List AV → Option (Int × Int × Int)
  | [] => none
  | a :: r => (intOf a).bind fun i => match r with
    | [] => some (0, i, 1)
    | b :: r => (intOf b).bind fun j => (one r).bind fun c => (intOf c).bind fun k => some (i, j, k)
noncomputable def itemsOf : AV → Option (List AV)
  | .list xs => some xs
  | .bytes b => some (b.map fun c => .int c.toNat)
  | _ => none
noncomputable def isAdd : Operator → Bool
  | .Add => true
  | _ => false
mutual
noncomputable def evT {α : Type} (T : Tab) (sc : Scope) : Nat → Expr → FS → (AV → Qt α) → Qt α
  | 0, _, _, _ => .fail
  | n + 1, e, f, k => match e with
    | .Constant c _ _ => ofO (constAV c) k
    | .Name x _ => nameT T sc x f k
    | .BinOp l op r _ => evT T sc n l f fun a => evT T sc n r f fun b => binT op a b k
    | .UnaryOp op x _ => (match op with
      | .USub => evT T sc n x f fun a => ofO (intOf a) fun i => k (.int (-i))
      | _ => .fail)
    | .Compare l ops rs _ => ofO (one ops) fun op => ofO (one rs) fun r => if isEv r = true then evT T sc n l f fun a => evT T sc n r f fun b => ofO (cmp op a b) fun c => k (.bool c) else .fail
    | .IfExp t b o _ => trT T sc n t f fun c => cond c (evT T sc n b f k) (evT T sc n o f k)
    | .List es _ => evsT T sc n es f fun xs => .need (decide (xs.length ≤ 1048576)) (k (.list xs))
    | .Subscript v i _ => (match sliceOf i with
      | some p => evT T sc n v f fun a => (match p.1 with
        | some lo => evT T sc n lo f fun i => evT T sc n p.2 f fun j => int2 i j fun i j => ofO (cut a i j) k
        | none => evT T sc n p.2 f fun j => ofO (intOf j) fun j => ofO (cut a 0 j) k)
      | none => if noSlice i = true then evT T sc n v f fun a => evT T sc n i f fun b => itemT (isNm v) a b k else .fail)
    | .Call fn args kws p => ofO (gcall (.Call fn args kws p)) fun c => if sc.names.lookup c.1 = some .globalImplicit ∧ canG T c.1 = true then evsT T sc n (c.2.1 :: c.2.2) f fun xs => (match T.fn c.1 with
      | some F => callT T n F xs k
      | none => natT T n c.1 xs k) else .fail
    | _ => .fail
noncomputable def evsT {α : Type} (T : Tab) (sc : Scope) : Nat → List Expr → FS → (List AV → Qt α) → Qt α
  | 0, _, _, _ => .fail
  | n + 1, es, f, k => match es with
    | [] => k []
    | e :: es => evT T sc n e f fun x => evsT T sc n es f fun xs => k (x :: xs)
noncomputable def trT {α : Type} (T : Tab) (sc : Scope) : Nat → Expr → FS → (Bool → Qt α) → Qt α
  | 0, _, _, _ => .fail
  | n + 1, e, f, k => match e with
    | .Compare l ops rs _ => ofO (one ops) fun op => ofO (one rs) fun r => if isEv r = true then evT T sc n l f fun a => evT T sc n r f fun b => ofO (cmp op a b) fun c => .ask c (k true) (k false) else .fail
    | .UnaryOp op x _ => (match op with
      | .Not => trT T sc n x f fun b => k (!b)
      | _ => .fail)
    | .BoolOp op xs p => (match op with
      | .Or => (match xs with
        | [] => k false
        | x :: r => trT T sc n x f fun c => cond c (k true) (trT T sc n (.BoolOp .Or r p) f k))
      | .And => (match xs with
        | [] => k true
        | x :: r => trT T sc n x f fun c => cond c (trT T sc n (.BoolOp .And r p) f k) (k false)))
    | .Name x p => evT T sc n (.Name x p) f fun a => ofO (truth a) fun c => .ask c (k true) (k false)
    | .Call x y z p => evT T sc n (.Call x y z p) f fun a => ofO (truth a) fun c => .ask c (k true) (k false)
    | _ => .fail
noncomputable def callT {α : Type} (T : Tab) : Nat → Fn → List AV → (AV → Qt α) → Qt α
  | 0, _, _, _ => .fail
  | n + 1, F, xs, k => if xs.length = F.ps.length then
      exsT T F.fd.scope n F.body ⟨(F.ps.zip xs).reverse, none⟩ fun o => (match o with
        | .ret v => k v
        | .next _ => k .none
        | _ => .fail)
    else .fail
noncomputable def exsT {α : Type} (T : Tab) (sc : Scope) : Nat → List Stmt → FS → (Out → Qt α) → Qt α
  | 0, _, _, _ => .fail
  | n + 1, sts, f, k => match sts with
    | [] => k (.next f)
    | st :: r => exT T sc n st f fun o => (match o with
      | .next f' => exsT T sc n r f' k
      | o => k o)
noncomputable def exT {α : Type} (T : Tab) (sc : Scope) : Nat → Stmt → FS → (Out → Qt α) → Qt α
  | 0, _, _, _ => .fail
  | n + 1, st, f, k => match st with
    | .Return v _ => ofO v fun e => evT T sc n e f fun v => k (.ret v)
    | .Assign ts e _ => ofO (one ts) fun t => ofO (nameOf t) fun x => if sc.names.lookup x = some .local then cond (isNil e) (match f.o with
          | some _ => .fail
          | none => k (.next (f.putOwn x [])))
        (evT T sc n e f fun v => if f.o.isNone = true ∨ flat v = true then k (.next (f.set x v)) else .fail) else .fail
    | .AugAssign t op e _ => ofO (nameOf t) fun x => if sc.names.lookup x = some .local ∧ isAdd op = true then ofO ((f.noOwn.get x).bind strOf') fun a => evT T sc n e f.noOwn fun v => ofO (strOf' v) fun b => .need (decide (a.length + b.length ≤ 1048576)) (k (.next (f.set x (.str (a ++ b))))) else .fail
    | .Expr e _ => ofO (methOf e) fun m => ofO f.o fun o => if sc.names.lookup m.1 = some .local ∧ m.1 = o.1 ∧ (m.1 == "__debug__") = false then
        (if m.2.1 = "append" then evT T sc n m.2.2 f.noOwn fun v => .need (decide (o.2.length ≤ 1048576)) (k (.next ⟨f.l, some (o.1, o.2 ++ [v])⟩))
        else if m.2.1 = "extend" then ofO (listOf m.2.2) fun es => evsT T sc n es f.noOwn fun vs => .need (decide (o.2.length + vs.length ≤ 1048576)) (k (.next ⟨f.l, some (o.1, o.2 ++ vs)⟩))
        else .fail) else .fail
    | .If t b o _ => trT T sc n t f fun c => cond c (exsT T sc n b f k) (exsT T sc n o f k)
    | .For t it body orelse _ => ofO (nameOf t) fun x => if sc.names.lookup x = some .local ∧ orelse.isEmpty = true then (match rangeOf it with
        | some p => if sc.names.lookup ("range" : Str) = some .globalImplicit ∧ (T.fn "range").isNone = true ∧ (T.nat "range").isNone = true ∧ (T.val "range").isNone = true then evsT T sc n (p.1 :: p.2) f fun as => ofO (rangeArgs as) fun r =>
            .need (decide (0 ≤ r.1 ∧ r.1 ≤ 1048576 ∧ 0 ≤ r.2.1 ∧ r.2.1 ≤ 1048576 ∧ 0 < r.2.2 ∧ r.2.2 ≤ 1048576)) (loopT T sc n x body (rangeL r.1 r.2.1 r.2.2) f k) else .fail
        | none => evT T sc n it f.noOwn fun v => ofO (itemsOf v) fun xs => loopT T sc n x body xs f k) else .fail
    | .While t body orelse _ => if orelse.isEmpty = true then wloopT T sc n t body f k else .fail
    | _ => .fail
noncomputable def loopT {α : Type} (T : Tab) (sc : Scope) : Nat → Str → List Stmt → List AV → FS → (Out → Qt α) → Qt α
  | 0, _, _, vs, f, k => (match vs with
    | [] => k (.next f)
    | _ :: _ => .fail)
  | n + 1, x, body, vs, f, k => match vs with
    | [] => k (.next f)
    | v :: r => exsT T sc n body (f.set x v) fun o => (match o with
      | .next f' => loopT T sc n x body r f' k
      | .cont f' => loopT T sc n x body r f' k
      | .brk f' => k (.next f')
      | .ret v => k (.ret v))
noncomputable def wloopT {α : Type} (T : Tab) (sc : Scope) : Nat → Expr → List Stmt → FS → (Out → Qt α) → Qt α
  | 0, _, _, _, _ => .fail
  | n + 1, t, body, f, k => trT T sc n t f fun c => cond c (exsT T sc n body f fun o => (match o with
      | .next f' => wloopT T sc n t body f' k
      | .cont f' => wloopT T sc n t body f' k
      | .brk f' => k (.next f')
      | .ret v => k (.ret v))) (k (.next f))
end
noncomputable def ev (T : Tab) (sc : Scope) (n : Nat) (e : Expr) (f : FS) : Option AV := (evT T sc n e f .done).val
noncomputable def evs (T : Tab) (sc : Scope) (n : Nat) (es : List Expr) (f : FS) : Option (List AV) := (evsT T sc n es f .done).val
noncomputable def tr (T : Tab) (sc : Scope) (n : Nat) (e : Expr) (f : FS) : Option Bool := (trT T sc n e f .done).val
noncomputable def callF (T : Tab) (n : Nat) (F : Fn) (xs : List AV) : Option AV := (callT T n F xs .done).val
noncomputable def exs (T : Tab) (sc : Scope) (n : Nat) (sts : List Stmt) (f : FS) : Option Out := (exsT T sc n sts f .done).val
noncomputable def ex (T : Tab) (sc : Scope) (n : Nat) (st : Stmt) (f : FS) : Option Out := (exT T sc n st f .done).val
end Mine
end
/- MM -/
section
open PySem PySem.W PyProof.Rows PySem.Calls
open PySem.AutoSeq1 (wpAny_loadPart')
set_option Elab.async false
set_option linter.unusedVariables false
namespace Mine
theorem rmulW (x : Int) (u : Tok) (l : Addr) (items : Array Value) (k : Nat) (dd : Option Addr) (sl : Array (Option Value)) :
    Meets (Builtin.«int.__rmul__» ⟨[.int x u, .ref l], []⟩) (fun _ R s => s.heap.get? l = some { cls := .type "list", dict := dd, data := .seq items k, slots := sl } ∧ R (.ok (.ret .notImplemented)) s) :=
  .of_wp fun prog w A R s h => by
    obtain ⟨hp, g, d, tk, os⟩ := s; obtain ⟨hl, h⟩ := h
    wp_walk using wpAny_loadPart' hl
    exact ⟨_, rfl, h⟩
theorem list_mulW (l : Addr) (items : Array Value) (n : Nat) (x : Int) (u : Tok) (dd : Option Addr) (sl : Array (Option Value)) (hc0 : ¬(!Builtin.List.listFitsIndex x) = true) (hc1 : ¬items.size * x.toNat > (2 ^ 63 - 1) / 8) (hc2 : ¬Builtin.List.listTooLong (items.size * x.toNat) = true) :
    Meets (Builtin.«list.__mul__» ⟨[.ref l, .int x u], []⟩) (fun _ R s => s.heap.get? l = some { cls := .type "list", dict := dd, data := .seq items n, slots := sl } ∧ R (.ok (.ret (Value.ref s.heap.objs.size))) { s with heap := s.heap.push { cls := Value.type "list", data := Data.seq (List.foldl (fun x1 x2 => x1 ++ x2) #[] (List.replicate (if items.isEmpty = true then 0 else x.toNat) items)) }, toks := s.toks }) :=
  .of_wp fun prog w A R s h => by
    obtain ⟨hp, g, d, tk, os⟩ := s; obtain ⟨hl, h⟩ := h
    have hsz := PySem.AutoListH.joined_fits hc2
    wp_walk using wpAny_loadPart' hl
    refine wpAny_ite_false (decide_eq_false (Nat.not_lt.mpr hsz)) ?_; wp_walk; exact ⟨_, rfl, h⟩
end Mine
namespace Mine
theorem foldl_app (items : Array Value) : ∀ (n : Nat) (acc : Array Value), List.foldl (fun x1 x2 => x1 ++ x2) acc (List.replicate n items) = acc ++ (List.replicate n items.toList).flatten.toArray
  | 0, acc => by simp
  | n + 1, acc => by
    rw [List.replicate_succ, List.foldl_cons, foldl_app items n, List.replicate_succ, List.flatten_cons]
    apply Array.ext'
    simp
theorem mul_lists {prog : Program} {w : World} {A : Around} {E : Value → Shared → Prop} {s : Shared} {l : Addr} {vs : List Value} {x : Int} {u : Tok} {Q : Value → Shared → Prop} (hl : s.heap.IsList l vs.toArray) (h0 : 0 ≤ x) (h1 : x ≤ 1000) (h2 : vs.length ≤ 1000)
    (h : Q (.ref s.heap.objs.size) { s with heap := s.heap.push { cls := .type "list", data := .seq (List.replicate x.toNat vs).flatten.toArray } }) :
    wpAny (model prog w) A (binaryOp .Mult (.ref l) (.int x u)) Q E s := by
  obtain ⟨⟨c1, d1, t1, s1⟩, hl, rfl, k, rfl⟩ := hl
  have hb : vs.toArray.size * x.toNat ≤ 1000000 := by
    rw [List.size_toArray]
    exact Nat.le_trans (Nat.mul_le_mul h2 (show x.toNat ≤ 1000 by lia)) (by decide)
  have e : List.foldl (fun x1 x2 => x1 ++ x2) #[] (List.replicate (if vs.toArray.isEmpty = true then 0 else x.toNat) vs.toArray) = (List.replicate x.toNat vs).flatten.toArray := by
    rw [foldl_app]
    by_cases q : vs = []
    · subst q; simp
    · simp [q]
  refine wpAny_binaryOp_repeat_ref (T := "list") (U := "int") (by decide) ⟨_, hl, rfl⟩ (fun s' => typeIs_int s' x u) noFill_list_mul PySem.F.fills_int_mul PySem.F.slot_int_rmul repeat_list PySem.F.slot_int_index.lookup
    (call_meets PySem.F.slot_int_rmul (typeIs_int s x u) PySem.F.entry_int_rmul (PySem.F.args_int_rmul_2 _ _) (rmulW x u l vs.toArray k d1 s1)
      ⟨hl, rfl, ⟨_, hl, rfl⟩, call_meets PySem.F.slot_list_mul ⟨_, hl, rfl⟩ PySem.F.entry_list_mul (PySem.F.args_list_mul_2 _ _)
        (list_mulW l vs.toArray k x u d1 s1 (by simp [Builtin.List.listFitsIndex]; lia) (by lia) (by simp only [Builtin.List.listTooLong, sizeLine_eq]; simp at hb ⊢; lia))
        ⟨hl, ?_⟩⟩)
  rw [e]; exact h
end Mine
end
/- ML -/
section
open PySem PySem.W PyProof.Rows PySem.Calls PySem.SeqAt PySem.MeetsSeq PySem.MeetsSeq2 PySem.MeetsSeq3 PySem.SeqRoads2
open PySem.AutoSeq1 (wpAny_loadPart')
set_option Elab.async false
set_option linter.unusedVariables false
namespace Mine
theorem lt_stop {ns ms : List Int} {i : Nat} (h1 : i ≤ ns.length) (h2 : i ≤ ms.length) (h : i = ns.length ∨ i = ms.length) : ltL (ns.drop i) (ms.drop i) = decide (ns.length < ms.length) := by
  rcases Nat.lt_or_ge i ns.length with q | q
  · have q2 : ms.length ≤ i := by lia
    rw [List.drop_eq_nil_of_le q2, List.drop_eq_getElem_cons q]
    simp only [ltL]; simp; lia
  · rw [List.drop_eq_nil_of_le q]
    rcases Nat.lt_or_ge i ms.length with q2 | q2
    · rw [List.drop_eq_getElem_cons q2]; simp only [ltL]; simp; lia
    · rw [List.drop_eq_nil_of_le q2]; simp only [ltL]; simp; lia
theorem lt_loop (l b : Addr) (vs us : List Value) (ns ms : List Int) (hi : IntsAre vs ns) (hj : IntsAre us ms) (n n2 : Nat) (dd dd2 : Option Addr) (sl sl2 : Array (Option Value)) (k : Nat) :
    ∀ i : Nat, vs.length - i = k → i ≤ vs.length → i ≤ us.length → Meets (Builtin.«list.__eq__.loop» ⟨[.ref l, .ref b, rawInt i, rawInt 0], []⟩)
      (fun A R s => s.heap.get? l = some { cls := .type "list", dict := dd, data := .seq vs.toArray n, slots := sl } ∧ s.heap.get? b = some { cls := .type "list", dict := dd2, data := .seq us.toArray n2, slots := sl2 } ∧
        R (.ok (.ret (.bool (ltL (ns.drop i) (ms.drop i))))) s) := by
  have e1 := hi.length
  have e2 := hj.length
  induction k with
  | zero =>
    intro i hk b1 b2 prog w A R s h
    obtain ⟨hp, g, d, tk, os⟩ := s; obtain ⟨hl, hb, h⟩ := h
    wp_walk using wpAny_loadPart' hl, wpAny_loadPart' hb
    have hi1 : vs.toArray[((i : Nat) : Int).toNat]? = none := by simp; lia
    rw [hi1]
    wp_walk using wpAny_loadPart' hl, wpAny_loadPart' hb
    rw [lt_stop (by lia) (by lia) (by lia)] at h
    show R (.ok (.ret (.bool (decide (vs.toArray.size < us.toArray.size))))) _
    simpa [e1, e2] using h
  | succ k ih =>
    intro i hk b1 b2 prog w A R s h
    obtain ⟨hp, g, d, tk, os⟩ := s; obtain ⟨hl, hb, h⟩ := h
    have hlt : i < vs.length := by lia
    wp_walk using wpAny_loadPart' hl, wpAny_loadPart' hb
    rcases Nat.lt_or_ge i us.length with hlt2 | hge
    · obtain ⟨t, ht⟩ := hi.get i (ns[i]'(by lia)) (by simp)
      obtain ⟨u, hu⟩ := hj.get i (ms[i]'(by lia)) (by simp)
      have hi1 : vs.toArray[((i : Nat) : Int).toNat]? = some (.int (ns[i]'(by lia)) t) := by simpa using ht
      have hi2 : us.toArray[((i : Nat) : Int).toNat]? = some (.int (ms[i]'(by lia)) u) := by simpa using hu
      have hc : ((i : Int) + 1) = ((i + 1 : Nat) : Int) := by push_cast; rfl
      rw [List.drop_eq_getElem_cons (by lia : i < ns.length), List.drop_eq_getElem_cons (by lia : i < ms.length)] at h
      simp only [ltL] at h
      rw [hi1, hi2]
      refine wpAny_bind (EqAt.int_int _ _ _ _ prog w _ _ ?_)
      by_cases q : ns[i]'(by lia) = ms[i]'(by lia)
      · rw [if_pos q] at h
        rw [beq_iff_eq.mpr q]
        wp_walk
        rw [hc]
        exact ⟨plainId_quiet plain_eq_loop _, codeAny_builtin entry_eq_loop (by
          rw [Around.under_plainId plain_eq_loop _]
          exact ih (i + 1) (by lia) (by lia) (by lia) prog w A R _ ⟨hl, hb, h⟩)⟩
      · rw [if_neg q] at h
        rw [beq_eq_false_iff_ne.mpr q]
        wp_walk using wpAny_loadPart' hl, wpAny_loadPart' hb
        rw [hi1, hi2]
        refine wpAny_bind (P.lt_int ?_)
        exact wpAny_pure h
    · have hi1 : us.toArray[((i : Nat) : Int).toNat]? = none := by simp; lia
      obtain ⟨t, ht⟩ := hi.get i (ns[i]'(by lia)) (by simp)
      have hi0 : vs.toArray[((i : Nat) : Int).toNat]? = some (.int (ns[i]'(by lia)) t) := by simpa using ht
      rw [hi0, hi1]
      wp_walk using wpAny_loadPart' hl, wpAny_loadPart' hb
      rw [lt_stop (by lia) (by lia) (by lia)] at h
      show R (.ok (.ret (.bool (decide (vs.toArray.size < us.toArray.size))))) _
      simpa [e1, e2] using h
theorem list_lt (l b : Addr) (vs us : List Value) (ns ms : List Int) (hi : IntsAre vs ns) (hj : IntsAre us ms) (n n2 : Nat) (dd dd2 : Option Addr) (sl sl2 : Array (Option Value)) :
    Meets (Builtin.«list.__lt__» ⟨[.ref l, .ref b], []⟩)
      (fun A R s => s.heap.get? l = some { cls := .type "list", dict := dd, data := .seq vs.toArray n, slots := sl } ∧ s.heap.get? b = some { cls := .type "list", dict := dd2, data := .seq us.toArray n2, slots := sl2 } ∧
        R (.ok (.ret (.bool (ltL ns ms)))) s) := by
  intro prog w A R s h
  obtain ⟨hp, g, d, tk, os⟩ := s; obtain ⟨hl, hb, h⟩ := h
  have f3 := AutoSeq1.sub_list_list
  wp_walk using wpAny_loadPart' hl, wpAny_loadPart' hb
  exact ⟨plainId_quiet plain_eq_loop _, codeAny_builtin entry_eq_loop (by
    rw [Around.under_plainId plain_eq_loop _]
    exact lt_loop l b vs us ns ms hi hj n n2 dd dd2 sl sl2 _ 0 rfl (Nat.zero_le _) (Nat.zero_le _) prog w A R _ ⟨hl, hb, h⟩)⟩
theorem lt_lists {prog : Program} {w : World} {A : Around} {E : Value → Shared → Prop} {s : Shared} {a b : Addr} {vs us : List Value} {ns ms : List Int} {Q : Value → Shared → Prop} (hl : s.heap.IsList a vs.toArray) (hi : IntsAre vs ns) (hl' : s.heap.IsList b us.toArray) (hi' : IntsAre us ms) (hu : A.units < cLine)
    (h : Q (.bool (ltL ns ms)) s) : wpAny (model prog w) A (compareOp .Lt (.ref a) (.ref b)) Q E s := by
  obtain ⟨⟨c1, d1, t1, s1⟩, g1, rfl, n1, rfl⟩ := hl
  obtain ⟨⟨c2, d2, t2, s2⟩, g2, rfl, n2, rfl⟩ := hl'
  exact richCompare_meets_room (op := .Lt) ⟨_, g1, rfl⟩ ⟨_, g2, rfl⟩ PySem.F.slot_list_lt PySem.F.entry_list_lt (PySem.F.args_list_lt_2 _ _) (list_lt a b vs us ns ms hi hi' n1 n2 d1 d2 s1 s2)
    ⟨g1, g2, show Value.bool _ ≠ Value.notImplemented ∧ Q (.bool _) s from ⟨(fun x => nomatch x), h⟩⟩ hu
end Mine
end
/- M4 -/
section
open PySem PySem.W PyProof.Rows PySem.Calls
set_option Elab.async false
set_option linter.unusedVariables false
namespace Mine

/-- what an expression leaves: the state has grown alone, the value stands for r -/
noncomputable def Post (hid : List Addr) (s : Shared) (r : AV) : Value → Shared → Prop := fun v s' => Keeps s s' ∧ Den (vw s'.heap hid) v r

noncomputable def PostK {α : Type} (hid : List Addr) (s : Shared) (k : AV → Qt α) (r : α) : Value → Shared → Prop := fun u s' => Keeps s s' ∧ ∃ v, Den (vw s'.heap hid) u v ∧ (k v).val = some r

theorem kp_push {s : Shared} (o : Obj) : Keeps s { s with heap := s.heap.push o } := ⟨_, _, rfl, fun _ _ e => Heap.get?_push_of_some _ e⟩
theorem vw_push {h : Heap} {hid : List Addr} (o : Obj) : ∀ a x, vw h hid a = some x → vw (h.push o) hid a = some x := vw_mono (fun _ _ e => Heap.get?_push_of_some _ e) fun _ z => z
theorem size_none (h : Heap) : h.get? h.objs.size = none := by
  cases q : h.get? h.objs.size with
  | none => rfl
  | some o => exact absurd (Heap.lt_size q) (Nat.lt_irrefl _)
theorem Den.kp {hid : List Addr} {s s' : Shared} {v : Value} {x : AV} (d : Den (vw s.heap hid) v x) (k : Keeps s s') : Den (vw s'.heap hid) v x := d.mono (vw_mono (kp_heap k) fun _ z => z)
theorem DenAll.kp {hid : List Addr} {s s' : Shared} {v : List Value} {x : List AV} (d : DenAll (vw s.heap hid) v x) (k : Keeps s s') : DenAll (vw s'.heap hid) v x := d.mono (vw_mono (kp_heap k) fun _ z => z)

theorem Den.isList {h : Heap} {hid : List Addr} {v : Value} {xs : List AV} (d : Den (vw h hid) v (.list xs)) : ∃ a vs, v = .ref a ∧ a ∉ hid ∧ h.IsList a vs.toArray ∧ DenAll (vw h hid) vs xs := by
  cases d with
  | list hq hc hd hs =>
    have := vw_some hq
    exact ⟨_, _, rfl, this.2, ⟨_, this.1, hc, _, hd⟩, hs⟩
theorem Den.inv_int {φ : Addr → Option Obj} {v : Value} {i : Int} (d : Den φ v (.int i)) : ∃ t, v = .int i t := by cases d; exact ⟨_, rfl⟩
theorem Den.inv_str {φ : Addr → Option Obj} {v : Value} {i : Str} (d : Den φ v (.str i)) : ∃ t, v = .str i t := by cases d; exact ⟨_, rfl⟩
theorem Den.inv_bool {φ : Addr → Option Obj} {v : Value} {i : Bool} (d : Den φ v (.bool i)) : v = .bool i := by cases d; rfl
theorem Den.inv_none {φ : Addr → Option Obj} {v : Value} (d : Den φ v .none) : v = .none := by cases d; rfl
theorem Den.inv_typ {φ : Addr → Option Obj} {v : Value} {n : String} (d : Den φ v (.typ n)) : v = .type n := by cases d; rfl
theorem Den.inv_bytes {φ : Addr → Option Obj} {v : Value} {b : List UInt8} (d : Den φ v (.bytes b)) : ∃ a t, v = .bytes a t ∧ b = a.toList := by cases d; exact ⟨_, _, rfl, rfl⟩
theorem DenAll.inv_nil {φ : Addr → Option Obj} {vs : List Value} (d : DenAll φ vs []) : vs = [] := by cases d; rfl
theorem DenAll.inv_cons {φ : Addr → Option Obj} {vs : List Value} {x : AV} {xs : List AV} (d : DenAll φ vs (x :: xs)) : ∃ v us, vs = v :: us ∧ Den φ v x ∧ DenAll φ us xs := by cases d with | cons h hs => exact ⟨_, _, rfl, h, hs⟩
theorem int2_den {α : Type} {φ : Addr → Option Obj} {a b : AV} {u v : Value} {k : Int → Int → Qt α} {r : α} (h : (int2 a b k).val = some r) (da : Den φ u a) (db : Den φ v b) : ∃ i t j t', u = .int i t ∧ v = .int j t' ∧ (k i j).val = some r := by
  obtain ⟨i, j, rfl, rfl, h⟩ := int2_ok h
  obtain ⟨t, rfl⟩ := da.inv_int
  obtain ⟨t', rfl⟩ := db.inv_int
  exact ⟨i, t, j, t', rfl, rfl, h⟩
/-- a list that has just been made -/
theorem Den.newList {s : Shared} {hid : List Addr} {vs : List Value} {xs : List AV} (l : Live hid s.heap) (d : DenAll (vw s.heap hid) vs xs) :
    Den (vw (s.heap.push { cls := .type "list", data := .seq vs.toArray }) hid) (.ref s.heap.objs.size) (.list xs) :=
  Den.of_list (l.fresh (size_none _)) ⟨_, Heap.get?_push_size _ rfl, rfl, _, rfl⟩ (d.mono (vw_push _))

theorem DenAll.times {φ : Addr → Option Obj} {vs : List Value} {xs : List AV} (d : DenAll φ vs xs) : ∀ n : Nat, DenAll φ (List.replicate n vs).flatten (List.replicate n xs).flatten
  | 0 => .nil
  | n + 1 => by rw [List.replicate_succ, List.replicate_succ, List.flatten_cons, List.flatten_cons]; exact d.append (d.times n)
section
variable {prog : Program} {w : World} {A : Around} {E : Value → Shared → Prop} {s : Shared} {hid : List Addr}

theorem bits_two64 {a : Int} (h : a.natAbs < two64) : Builtin.Int.intBits a ≤ 64 := intBits_le_64 (by unfold two64 at h; omega) (by unfold two64 at h; omega)

theorem log2_bigN {a : Int} (h : a.natAbs < bigN) : a.natAbs.log2 < 9000 := by
  by_cases q : a.natAbs = 0
  · rw [q]; decide
  · have : a.natAbs.log2 < 200 := (Nat.log2_lt q).mpr h
    lia

theorem made_add {x y : Str} {t u : Tok} (q : x.length + y.length ≤ 1048576) :
    (if x.length == 0 then Made.val (.str y u) else if y.length == 0 then Made.val (.str x t) else Made.str (x ++ y)).post (Post hid s (.str (x ++ y))) s := by
  have nil : ∀ z : Str, (z.length == 0) = true → z = Str.empty := fun z hz => by
    obtain ⟨c⟩ := z
    have : c = #[] := Array.eq_empty_of_size_eq_zero (by simpa [Str.length] using hz)
    subst this; rfl
  by_cases hx : (x.length == 0) = true
  · rw [if_pos hx]
    have e : x ++ y = y := by rw [nil x hx]; show Str.append _ _ = _; simp [Str.append, Str.empty]
    rw [e]; exact ⟨kp_refl _, .str _ _⟩
  · rw [if_neg hx]
    by_cases hy : (y.length == 0) = true
    · rw [if_pos hy]
      have e : x ++ y = x := by rw [nil y hy]; show Str.append _ _ = _; simp [Str.append, Str.empty]
      rw [e]; exact ⟨kp_refl _, .str _ _⟩
    · rw [if_neg hy]
      refine ⟨?_, kp_tok _, .str _ _⟩
      rw [strLen_append, sizeLine_eq]; lia

theorem add_lists_ok {l b : Addr} {vs ws : List Value} {Q : Value → Shared → Prop} (hl : s.heap.IsList l vs.toArray) (hb : s.heap.IsList b ws.toArray)
    (h : Q (.ref s.heap.objs.size) { s with heap := s.heap.push { cls := .type "list", data := .seq (vs ++ ws).toArray } })
    (hsz : vs.length + ws.length ≤ sizeLine) : wpAny (model prog w) A (binaryOp .Add (.ref l) (.ref b)) Q E s := by
  obtain ⟨⟨cls, dd, data, sl⟩, ho, hc, n, hd⟩ := id hl
  obtain ⟨⟨cls2, dd2, data2, sl2⟩, ho2, hc2, n2, hd2⟩ := id hb
  simp only at hc hd hc2 hd2
  subst hc hd hc2 hd2
  have e : vs.toArray ++ ws.toArray = (vs ++ ws).toArray := by simp
  refine concat_meets ⟨_, ho, rfl⟩ ⟨_, ho2, rfl⟩ noFill_list_add seq_list_add PySem.F.slot_list_add PySem.F.entry_list_add (PySem.F.args_list_add_2 _ _) (list_addW l b vs.toArray ws.toArray n n2 dd dd2 sl sl2 (by simpa using hsz)) ⟨ho, ho2, ?_⟩
  rw [e]
  exact h

theorem binT_ok {α : Type} (lv : Live hid s.heap) {op : Operator} {a b : AV} {k : AV → Qt α} {r : α} {u v : Value} (h : (binT op a b k).val = some r) (da : Den (vw s.heap hid) u a) (db : Den (vw s.heap hid) v b) :
    wpAny (model prog w) A (binaryOp op u v) (PostK hid s k r) E s := by
  cases op with
  | Add =>
    have int : (int2 a b fun i j => k (.int (i + j))).val = some r → wpAny (model prog w) A (binaryOp .Add u v) (PostK hid s k r) E s := fun h => by
      obtain ⟨i, t, j, t', rfl, rfl, h⟩ := int2_den h da db
      exact P.add_int ⟨kp_tok _, _, .int _ _, h⟩
    cases a with
    | str x =>
      obtain ⟨y, hy, h⟩ := val_ofO h
      cases strOf'_ok hy
      obtain ⟨q, h⟩ := val_need h
      obtain ⟨t, rfl⟩ := da.inv_str
      obtain ⟨t', rfl⟩ := db.inv_str
      exact wpAny_mono (P.add_str (made_add (of_decide_eq_true q))) (fun _ _ z => ⟨z.1, _, z.2, h⟩) fun _ _ z => z
    | list xs =>
      cases b with
      | list ys =>
        obtain ⟨q, h⟩ := val_need h
        have q := of_decide_eq_true q
        obtain ⟨x, vs, rfl, hx, lx, dx⟩ := da.isList
        obtain ⟨y, ws, rfl, hy, ly, dy⟩ := db.isList
        refine add_lists_ok lx ly ⟨kp_push _, _, Den.newList lv (dx.append dy), h⟩ ?_
        rw [dx.length, dy.length, sizeLine_eq]; lia
      | _ => cases h
    | _ => exact int h
  | Sub => obtain ⟨i, t, j, t', rfl, rfl, h⟩ := int2_den h da db; exact P.sub_int ⟨kp_tok _, _, .int _ _, h⟩
  | Mult =>
    have int : (int2 a b fun i j => .need (decide (i.natAbs < two64)) (k (.int (i * j)))).val = some r → wpAny (model prog w) A (binaryOp .Mult u v) (PostK hid s k r) E s := fun h => by
      obtain ⟨i, t, j, t', rfl, rfl, h⟩ := int2_den h da db
      obtain ⟨q, h⟩ := val_need h
      exact P.mul_int ⟨kp_tok _, _, .int _ _, h⟩ (.of_left (bits_two64 (of_decide_eq_true q)))
    cases a with
    | list xs =>
      obtain ⟨i, hi, h⟩ := val_ofO h
      cases intOf_ok hi
      obtain ⟨q, h⟩ := val_need h
      have q := of_decide_eq_true q
      obtain ⟨x, vs, rfl, hx, lx, dx⟩ := da.isList
      obtain ⟨t, rfl⟩ := db.inv_int
      exact mul_lists lx q.1 q.2.1 (by rw [dx.length]; exact q.2.2) ⟨kp_push _, _, Den.newList lv (dx.times _), h⟩
    | _ => exact int h
  | FloorDiv =>
    obtain ⟨i, t, j, t', rfl, rfl, h⟩ := int2_den h da db
    obtain ⟨q, h⟩ := val_need h
    have q := of_decide_eq_true q
    exact floordiv_int q.1 ⟨kp_tok _, _, .int _ _, h⟩ (.inl (PyProof.noPylong_of_log2 (log2_bigN q.2)))
  | Mod =>
    obtain ⟨i, t, j, t', rfl, rfl, h⟩ := int2_den h da db
    obtain ⟨q, h⟩ := val_need h
    exact mod_int' (of_decide_eq_true q) ⟨kp_tok _, _, .int _ _, h⟩
  | LShift =>
    obtain ⟨i, t, j, t', rfl, rfl, h⟩ := int2_den h da db
    obtain ⟨q, h⟩ := val_need h
    obtain ⟨p, h⟩ := val_need h
    have q := of_decide_eq_true q
    exact lshift_int_small q.1 q.2 (of_decide_eq_true p) ⟨kp_tok _, _, .int _ _, h⟩
  | RShift =>
    obtain ⟨i, t, j, t', rfl, rfl, h⟩ := int2_den h da db
    obtain ⟨q, h⟩ := val_need h
    exact rshift_int (of_decide_eq_true q) ⟨kp_tok _, _, .int _ _, h⟩
  | Pow =>
    obtain ⟨i, t, j, t', rfl, rfl, h⟩ := int2_den h da db
    obtain ⟨q, h⟩ := val_need h
    obtain ⟨p, h⟩ := val_need h
    have q := of_decide_eq_true q
    refine pow_int q.1 ?_ ⟨kp_tok _, _, .int _ _, h⟩
    have b1 : (Builtin.Int.intBits i : Int) ≤ 64 := Int.ofNat_le.mpr (bits_two64 (of_decide_eq_true p))
    have b2 := Int.mul_le_mul b1 q.2 q.1 (by decide)
    exact Int.le_trans b2 (by decide)
  | BitAnd => obtain ⟨i, t, j, t', rfl, rfl, h⟩ := int2_den h da db; exact and_int ⟨kp_tok _, _, .int _ _, h⟩
  | BitOr => obtain ⟨i, t, j, t', rfl, rfl, h⟩ := int2_den h da db; exact or_int ⟨kp_tok _, _, .int _ _, h⟩
  | _ => cases h

theorem intsOf_cons {x : AV} {xs : List AV} {ns : List Int} (e : intsOf (x :: xs) = some ns) : ∃ i l, x = .int i ∧ intsOf xs = some l ∧ ns = i :: l := by
  obtain ⟨i, hi, e⟩ := obind e
  obtain ⟨l, hl, e⟩ := obind e
  exact ⟨i, l, intOf_ok hi, hl, (osome e).symm⟩
theorem ints_of {φ : Addr → Option Obj} : ∀ {xs : List AV} {vs : List Value} {ns : List Int}, DenAll φ vs xs → intsOf xs = some ns → IntsAre vs ns := by
  intro xs
  induction xs with
  | nil => intro vs ns d e; cases d.inv_nil; cases e; exact .nil
  | cons x xs ih =>
    intro vs ns d e
    obtain ⟨i, l, rfl, hl, rfl⟩ := intsOf_cons e
    obtain ⟨v, us, rfl, h, hs⟩ := d.inv_cons
    obtain ⟨t, rfl⟩ := h.inv_int
    exact .cons i t (ih hs hl)

theorem cmpI_ok {op : CmpOp} {i j : Int} {t t' : Tok} {r : Bool} (h : cmpI op i j = some r) : wpAny (model prog w) A (compareOp op (.int i t) (.int j t')) (fun x s' => x = .bool r ∧ s' = s) E s := by
  cases op with
  | Lt => cases h; exact P.lt_int ⟨rfl, rfl⟩
  | LtE => cases h; exact P.le_int ⟨rfl, rfl⟩
  | Gt => cases h; exact P.gt_int ⟨rfl, rfl⟩
  | GtE => cases h; exact P.ge_int ⟨rfl, rfl⟩
  | Eq => cases h; exact P.eq_int ⟨rfl, rfl⟩
  | NotEq => cases h; exact P.ne_int ⟨rfl, rfl⟩
  | _ => cases h
theorem cmpL_ok (hu : A.units + 64 < cLine) {op : CmpOp} {x y : Addr} {vs ws : List Value} {p q : List Int} {r : Bool} (lx : s.heap.IsList x vs.toArray) (ip : IntsAre vs p) (ly : s.heap.IsList y ws.toArray) (iq : IntsAre ws q) (h : cmpL op p q = some r) :
    wpAny (model prog w) A (compareOp op (.ref x) (.ref y)) (fun x s' => x = .bool r ∧ Keeps s s') E s := by
  cases op with
  | Lt => cases h; exact lt_lists lx ip ly iq (by lia) ⟨rfl, kp_refl _⟩
  | Eq =>
    cases h
    refine eq_intsK lx ip ly iq hu ⟨?_, kp_refl _⟩
    congr 1
    by_cases z : p = q <;> simp [z]
  | NotEq =>
    cases h
    refine ne_intsK lx ip ly iq hu ⟨?_, kp_refl _⟩
    congr 1
    by_cases z : p = q <;> simp [z, bne]
  | _ => cases h
theorem isIsOp_ok {op : CmpOp} (h : isIsOp op = true) : op = .Is := by cases op <;> first | rfl | cases h
theorem isIsNotOp_ok {op : CmpOp} (h : isIsNotOp op = true) : op = .IsNot := by cases op <;> first | rfl | cases h
theorem isEqOp_ok {op : CmpOp} (h : isEqOp op = true) : op = .Eq := by cases op <;> first | rfl | cases h
theorem isNn_ok {op : CmpOp} {b : AV} {c r : Bool} {u v : Value} {φ : Addr → Option Obj} (h : isNn op b c = some r) (db : Den φ v b) (hc : (u == Value.none) = c) : wpAny (model prog w) A (compareOp op u v) (fun x s' => x = .bool r ∧ s' = s) E s := by
  obtain ⟨q, h1⟩ := oif h
  cases isNoneA_ok q
  cases db.inv_none
  rcases oite h1 with ⟨q2, h2⟩ | ⟨_, h2⟩
  · cases isIsOp_ok q2
    exact is_none ⟨by rw [hc, osome h2], rfl⟩
  · obtain ⟨q2, h3⟩ := oif h2
    cases isIsNotOp_ok q2
    exact isNot_none ⟨by rw [hc, osome h3], rfl⟩
theorem cmpB_ok {op : CmpOp} {i j r : Bool} (h : cmpB op i j = some r) : wpAny (model prog w) A (compareOp op (.bool i) (.bool j)) (fun x s' => x = .bool r ∧ s' = s) E s := by
  cases op with
  | Eq => cases h; exact eq_bool ⟨rfl, rfl⟩
  | NotEq => cases h; exact ne_bool ⟨rfl, rfl⟩
  | _ => cases h
theorem type_beq (p q : String) : ((Value.type p == Value.type q) : Bool) = (p == q) := by
  by_cases z : p = q
  · subst z; simp
  · rw [beq_eq_false_iff_ne.mpr z, beq_eq_false_iff_ne]; intro e; cases e; exact z rfl
theorem cmpAll_ok (hh : A.handled = none) (hu : A.units + 64 < cLine) {op : CmpOp} {a b : AV} {r : Bool} {u v : Value} (h : cmp op a b = some r) (da : Den (vw s.heap hid) u a) (db : Den (vw s.heap hid) v b) :
    wpAny (model prog w) A (compareOp op u v) (fun x s' => x = .bool r ∧ Keeps s s') E s := by
  have keep : wpAny (model prog w) A (compareOp op u v) (fun x s' => x = .bool r ∧ s' = s) E s → wpAny (model prog w) A (compareOp op u v) (fun x s' => x = .bool r ∧ Keeps s s') E s := fun h =>
    wpAny_mono h (fun _ _ z => ⟨z.1, by rw [z.2]; exact kp_refl _⟩) fun _ _ z => z
  cases a with
  | int i =>
    obtain ⟨j, hj, h1⟩ := obind h
    obtain ⟨t, rfl⟩ := da.inv_int
    rw [intOf_ok hj] at db
    obtain ⟨t', rfl⟩ := db.inv_int
    exact keep (cmpI_ok h1)
  | list xs =>
    obtain ⟨ys, hy, h1⟩ := obind h
    obtain ⟨p, e1, h2⟩ := obind h1
    obtain ⟨q, e2, h3⟩ := obind h2
    rw [lstOf_ok hy] at db
    obtain ⟨x, vs, rfl, hx, lx, dx⟩ := da.isList
    obtain ⟨y, ws, rfl, hy, ly, dy⟩ := db.isList
    exact cmpL_ok hu lx (ints_of dx e1) ly (ints_of dy e2) h3
  | bool i =>
    cases da.inv_bool
    cases b with
    | bool j => cases db.inv_bool; exact keep (cmpB_ok h)
    | _ => exact keep (isNn_ok h db rfl)
  | str x =>
    obtain ⟨y, hy, h1⟩ := obind h
    obtain ⟨q, h2⟩ := oif h1
    obtain ⟨t, rfl⟩ := da.inv_str
    rw [strOf'_ok hy] at db
    obtain ⟨t', rfl⟩ := db.inv_str
    cases isEqOp_ok q
    exact PyProof.Rows.eq_str ⟨congrArg Value.bool (osome h2), kp_refl _⟩
  | typ x =>
    obtain ⟨y, hy, h1⟩ := obind h
    obtain ⟨q, h2⟩ := oif h1
    rw [typOf_ok hy] at db
    cases da.inv_typ; cases db.inv_typ
    cases isIsOp_ok q
    exact wpAny_is_plain rfl ⟨congrArg Value.bool ((type_beq _ _).trans (osome h2)), kp_refl _⟩
  | none => cases da.inv_none; exact keep (isNn_ok h db rfl)
  | bytes x => obtain ⟨y, t, rfl, rfl⟩ := da.inv_bytes; exact keep (isNn_ok h db rfl)

theorem truth_ok {a : AV} {r : Bool} {u : Value} (h : truth a = some r) (da : Den (vw s.heap hid) u a) : wpAny (model prog w) A (truthy u) (fun x s' => x = r ∧ s' = s) E s := by
  cases a with
  | bool b => cases da.inv_bool; cases h; exact wpAny_truthy_bool ⟨rfl, rfl⟩
  | int i => obtain ⟨t, rfl⟩ := da.inv_int; cases h; exact P.truthy_int ⟨rfl, rfl⟩
  | none => cases da.inv_none; cases h; exact truthy_none ⟨rfl, rfl⟩
  | _ => cases h

theorem subscripted_plain {i : Expr} {o x : Value} (h : noSlice i = true) : subscripted i false o x = operate [o, x] (getItem o x) := by
  cases i <;> first | rfl | skip
  rename_i lo up st p
  cases st with
  | none => cases h
  | some _ => rfl

theorem item_ok {value i : Expr} (hi : noSlice i = true) {a b r : AV} {u v : Value} (h : item a b = some r) (da : Den (vw s.heap hid) u a) (db : Den (vw s.heap hid) v b) :
    wpAny (model prog w) A (subscriptTail value i u v) (Post hid s r) E s := by
  cases b with
  | int k =>
    obtain ⟨t, rfl⟩ := db.inv_int
    cases a with
    | list xs =>
      have h : (if 0 ≤ k ∧ k < 1048576 then xs[k.toNat]? else none) = some r := h
      obtain ⟨x, vs, rfl, hx, lx, dx⟩ := da.isList
      by_cases q : 0 ≤ k ∧ k < 1048576
      · rw [if_pos q] at h
        obtain ⟨v, hv, d⟩ := dx.get h
        exact tail_any lx.typeIs slot_list_getitem.lookup (wpAny_getItem_list lx q.1 (by lia) (by simpa using hv) ⟨kp_refl _, d⟩) (subscripted_plain hi)
      · rw [if_neg q] at h; cases h
    | bytes bs =>
      obtain ⟨ar, u, rfl, rfl⟩ := da.inv_bytes
      have h : (if 0 ≤ k ∧ ar.toList.length ≤ 1048576 then (match ar.toList[k.toNat]? with | some x => some (AV.int x.toNat) | none => none) else none) = some r := h
      by_cases q : 0 ≤ k ∧ ar.toList.length ≤ 1048576
      · rw [if_pos q] at h
        cases hx : ar.toList[k.toNat]? with
        | none => rw [hx] at h; cases h
        | some x =>
          rw [hx] at h
          cases h
          have hl : k.toNat < ar.toList.length := (List.getElem?_eq_some_iff.mp hx).1
          have e : ar = ar.toList.toArray := by simp
          have key : wpAny (model prog w) A (getItem (.bytes ar.toList.toArray u) (.int k t)) (Post hid s (.int x.toNat)) E s := by
            refine PySem.W.getItem_bytes (by lia) q.1 (by lia) ⟨kp_tok _, ?_⟩
            have : ar.toList.getD k.toNat 0 = x := by simp [List.getD, hx]
            rw [this]; exact .int _ _
          rw [← e] at key
          exact tail_any (typeIs_bytes s _ _) FB.slot_bytes_getitem.lookup key (subscripted_plain hi)
      · rw [if_neg q] at h; cases h
    | str x =>
      obtain ⟨u, rfl⟩ := da.inv_str
      have h : (if 0 ≤ k ∧ k < 1048576 then (match x.cps[k.toNat]? with | some c => some (AV.str ⟨#[c]⟩) | none => none) else none) = some r := h
      by_cases q : 0 ≤ k ∧ k < 1048576
      · rw [if_pos q] at h
        cases hc : x.cps[k.toNat]? with
        | none => rw [hc] at h; cases h
        | some c =>
          rw [hc] at h
          cases h
          refine tail_any (typeIs_str s _ _) F.slot_str_getitem.lookup (P.getItem_str ?_ ?_ ⟨kp_tok _, .str _ _⟩) (subscripted_plain hi)
          · simp; lia
          · have hl : k.toNat < x.length := (Array.getElem?_eq_some_iff.mp hc).1
            have : seqIndex? k x.length = some k.toNat := by
              have hn : ¬ k < 0 := by lia
              simp [seqIndex?, hn, q.1]; lia
            rw [this]; exact hc
      · rw [if_neg q] at h; cases h
    | _ => cases h
  | _ => cases h
end
end Mine
end
/- M5 -/
section
open PySem PySem.W PyProof.Rows PySem.Calls
set_option Elab.async false
set_option linter.unusedVariables false
set_option linter.unusedSimpArgs false
namespace Mine

structure Cx (A : Around) (n : Nat) : Prop where
  depth : A.depth + n < recursionLimit
  units : A.units + 8 * n + 100 < cLine
  hand : A.handled = none
theorem Cx.less {A : Around} {n : Nat} (c : Cx A (n + 1)) : Cx A n := ⟨by have := c.depth; lia, by have := c.units; lia, c.hand⟩
theorem Cx.mono {A : Around} {n m : Nat} (c : Cx A n) (h : m ≤ n) : Cx A m := ⟨by have := c.depth; lia, by have := c.units; lia, c.hand⟩
theorem Cx.in1 {A : Around} {n : Nat} (c : Cx A (n + 1)) : Cx A.in1 n := ⟨by have := c.depth; simp; lia, by have := c.units; simp; lia, c.hand⟩
theorem Cx.deeper {A : Around} {n : Nat} (c : Cx A (n + 1)) (env : Env) : Cx (A.deeper env) n := ⟨by have := c.depth; show A.depth + 1 + n < _; lia, by have := c.units; show A.units + 3 + _ + _ < _; lia, c.hand⟩

structure EnvIs (env : Env) (sc : Scope) (L : Addr) : Prop where
  scp : env.scope = sc
  loc : env.locals = L
  gl : env.globals = mainGlobals
  bl : env.builtins = builtinsNs
  kind : sc.kind = .function


structure FnWf (F : Fn) : Prop where
  body : F.fd.body = .stmts F.body
  bind : ∀ args : List Value, args.length = F.ps.length → bindArgs F.fd ⟨args, []⟩ = pure (F.ps.zip args)
  cell : ∀ x ∈ F.fd.scope.names, x.2 ≠ .cell
  loc : ∀ p ∈ F.ps, F.fd.scope.names.lookup p = some .local
  co : F.fd.scope.isCoroutine = false
  gen : F.fd.scope.isGenerator = false
  kind : F.fd.scope.kind = .function
  gl : F.fd.globals = mainGlobals
  bl : F.fd.builtins = builtinsNs
  nd : F.ps.Nodup

/-- what the top's heap holds for the names of the table -/
structure TopIs (T : Tab) (g : Heap) : Prop where
  names : ∃ mg mb, g.Ns mainGlobals mg ∧ g.Ns builtinsNs mb ∧ (∀ x F, T.fn x = some F → mg x = some (.ref F.a)) ∧
    (∀ x v, T.val x = some v → ∃ u, Den (fun _ => none) u v ∧ (mg x = some u ∨ (mg x = none ∧ mb x = some u))) ∧
    (∀ x u, bltVal x = some u → T.fn x = none → T.nat x = none → T.val x = none → mg x = none ∧ mb x = some u)
  lim : g.NoLimit
  fns : ∀ x F, T.fn x = some F → FnWf F ∧ (∃ o, g.get? F.a = some o ∧ o.data = .func F.fd) ∧ g.CodeRec F.fd.code F.fd.qualname
  debug : ∀ x, (T.fn x).isSome = true ∨ (T.val x).isSome = true → (x == ("__debug__" : Str)) = false

/-- the functions that are proved by hand -/
structure NatOk (prog : Program) (w : World) (T : Tab) (g : Heap) : Prop where
  name : ∃ mg, g.Ns mainGlobals mg ∧ ∀ x a k, T.nat x = some (a, k) → mg x = some (.ref a)
  obj : ∀ x a k, T.nat x = some (a, k) → ∃ o fd, g.get? a = some o ∧ o.data = .func fd
  ok : ∀ x a k, T.nat x = some (a, k) → ∀ xs r, k xs = some r → ∀ A hid s vs (E : Value → Shared → Prop), Cx A 100 → Live hid s.heap → (∀ b o, g.get? b = some o → s.heap.get? b = some o) →
    DenAll (vw s.heap hid) vs xs → wpAny (model prog w) A (call (.ref a) vs) (Post hid s r) E s
  debug : ∀ x a k, T.nat x = some (a, k) → (x == ("__debug__" : Str)) = false

section
variable (prog : Program) (w : World) (T : Tab) (g : Heap)

noncomputable def EvK (n : Nat) : Prop := ∀ {α : Type} (sc : Scope) (e : Expr) (f : FS) (k : AV → Qt α) (r : α), (evT T sc n e f k).val = some r → ∀ A env hid L oa s (E : Value → Shared → Prop), Cx A n → EnvIs env sc L → FrameW g hid L oa f s.heap →
  wpAny (model prog w) A (eval e env) (PostK (L :: hid) s k r) E s
noncomputable def EvsK (n : Nat) : Prop := ∀ {α : Type} (sc : Scope) (es : List Expr) (f : FS) (k : List AV → Qt α) (r : α), (evsT T sc n es f k).val = some r → ∀ A env hid L oa s pos (E : Value → Shared → Prop), Cx A n → EnvIs env sc L → FrameW g hid L oa f s.heap →
  wpAny (model prog w) A (spliced (backTo pos (starEach es env))) (fun vs s' => Keeps s s' ∧ ∃ xs, DenAll (vw s'.heap (L :: hid)) vs xs ∧ (k xs).val = some r) E s
noncomputable def TrK (n : Nat) : Prop := ∀ {α : Type} (sc : Scope) (e : Expr) (f : FS) (k : Bool → Qt α) (r : α), (trT T sc n e f k).val = some r → ∀ A env hid L oa s (E : Value → Shared → Prop), Cx A n → EnvIs env sc L → FrameW g hid L oa f s.heap →
  wpAny (model prog w) A (isTrue e env (eval e env)) (fun c s' => Keeps s s' ∧ (k c).val = some r) E s
noncomputable def CallK (n : Nat) : Prop := ∀ {α : Type} (x : Str) (F : Fn) (xs : List AV) (k : AV → Qt α) (r : α), T.fn x = some F → (callT T n F xs k).val = some r → ∀ A hid s vs (E : Value → Shared → Prop), Cx A n → Live hid s.heap → (∀ b o, g.get? b = some o → s.heap.get? b = some o) →
  DenAll (vw s.heap hid) vs xs → wpAny (model prog w) A (call (.ref F.a) vs) (PostK hid s k r) E s
noncomputable def EvOk (n : Nat) : Prop := ∀ sc e f r, ev T sc n e f = some r → ∀ A env hid L oa s (E : Value → Shared → Prop), Cx A n → EnvIs env sc L → FrameW g hid L oa f s.heap →
  wpAny (model prog w) A (eval e env) (Post (L :: hid) s r) E s
noncomputable def TrOk (n : Nat) : Prop := ∀ sc e f b, tr T sc n e f = some b → ∀ A env hid L oa s (E : Value → Shared → Prop), Cx A n → EnvIs env sc L → FrameW g hid L oa f s.heap →
  wpAny (model prog w) A (isTrue e env (eval e env)) (fun c s' => c = b ∧ Keeps s s') E s
noncomputable def CallOk (n : Nat) : Prop := ∀ x F xs r, T.fn x = some F → callF T n F xs = some r → ∀ A hid s vs (E : Value → Shared → Prop), Cx A n → Live hid s.heap → (∀ b o, g.get? b = some o → s.heap.get? b = some o) →
  DenAll (vw s.heap hid) vs xs → wpAny (model prog w) A (call (.ref F.a) vs) (Post hid s r) E s
end
section
variable {prog : Program} {w : World} {T : Tab} {g : Heap}
theorem EvK.ok {n : Nat} (i : EvK prog w T g n) : EvOk prog w T g n := fun sc e f r h A env hid L oa s E c ei F =>
  wpAny_mono (i sc e f .done r h A env hid L oa s E c ei F) (fun _ _ z => ⟨z.1, by obtain ⟨v, d, e⟩ := z.2; cases e; exact d⟩) fun _ _ z => z
theorem TrK.ok {n : Nat} (i : TrK prog w T g n) : TrOk prog w T g n := fun sc e f r h A env hid L oa s E c ei F =>
  wpAny_mono (i sc e f .done r h A env hid L oa s E c ei F) (fun _ _ z => ⟨by have := z.2; cases this; rfl, z.1⟩) fun _ _ z => z
theorem CallK.ok {n : Nat} (i : CallK prog w T g n) : CallOk prog w T g n := fun x F xs r hF h A hid s vs E c lv top d =>
  wpAny_mono (i x F xs .done r hF h A hid s vs E c lv top d) (fun _ _ z => ⟨z.1, by obtain ⟨v, d, e⟩ := z.2; cases e; exact d⟩) fun _ _ z => z

theorem ev_is {α : Type} {sc : Scope} {n : Nat} {e : Expr} {f : FS} {k : AV → Qt α} {r : α} (h : (evT T sc n e f k).val = some r) : isEv e = true := by
  cases n with
  | zero => cases h
  | succ n => cases e <;> first | rfl | cases h
theorem star_is {e : Expr} (h : isEv e = true) (rest : List Expr) (env : Env) : starEach (e :: rest) env = (false, eval e env) :: starEach rest env := by
  cases e <;> first | rfl | cases h
theorem not_starred {sc : Scope} {n : Nat} {e : Expr} {f : FS} {r : AV} (h : ev T sc n e f = some r) (rest : List Expr) (env : Env) : starEach (e :: rest) env = (false, eval e env) :: starEach rest env := star_is (ev_is h) rest env

theorem stars_are {pos : Pos} {env : Env} : ∀ {es : List Expr}, es.all isEv = true → (backTo pos (starEach es env)).any (·.1) = false
  | [], _ => rfl
  | e :: es, h => by
    have h : (isEv e && es.all isEv) = true := h
    obtain ⟨h1, h2⟩ := Bool.and_eq_true_iff.mp h
    rw [star_is h1]
    show (false || (backTo pos (starEach es env)).any (·.1)) = false
    rw [stars_are h2]; rfl
theorem evs_first {α : Type} {sc : Scope} {n : Nat} {e : Expr} {es : List Expr} {f : FS} {k : List AV → Qt α} {r : α} (h : (evsT T sc n (e :: es) f k).val = some r) (env : Env) : starEach (e :: es) env = (false, eval e env) :: starEach es env := by
  cases n with
  | zero => cases h
  | succ n =>
    have h : (evT T sc n e f fun x => evsT T sc n es f fun xs => k (x :: xs)).val = some r := h
    exact star_is (ev_is h) es env

theorem evs_succ {n : Nat} (i1 : EvK prog w T g n) (i2 : EvsK prog w T g n) : EvsK prog w T g (n + 1) := by
  intro α sc es f k r h A env hid L oa s pos E c ei F
  cases es with
  | nil => exact spliced_nil ⟨kp_refl _, [], .nil, h⟩
  | cons e es =>
    have h : (evT T sc n e f fun x => evsT T sc n es f fun xs => k (x :: xs)).val = some r := h
    refine args_cons (wpAny_mono (i1 sc e f _ r h A env hid L oa s E c.less ei F) (fun v s₁ h₁ => ?_) fun _ _ z => z) (star_is (ev_is h) es env)
    obtain ⟨k1, x, d1, h⟩ := h₁
    refine wpAny_mono (i2 sc es f _ r h A env hid L oa s₁ pos E c.less ei (F.ex k1)) (fun vs s₂ h₂ => ?_) fun _ _ z => z
    obtain ⟨k2, xs, d2, h⟩ := h₂
    exact ⟨kp_trans k1 k2, x :: xs, .cons (d1.kp k2) d2, h⟩

theorem name_ok {sc : Scope} {x : Str} {pos : Pos} {f : FS} {r : AV} {A : Around} {env : Env} {hid : List Addr} {L : Addr} {oa : Option Addr} {s : Shared} {E : Value → Shared → Prop}
    (hx : sc.names.lookup x = some .local) (h : f.get x = some r) (ei : EnvIs env sc L) (F : FrameW g hid L oa f s.heap) (hd : (x == ("__debug__" : Str)) = false) :
    wpAny (model prog w) A (eval (.Name x pos) env) (Post (L :: hid) s r) E s := by
  obtain ⟨m, u, hm, hu, d⟩ := F.get h
  refine wpAny_Name (wpAny_loadName_local ?_ ?_ ?_ hu ⟨kp_refl _, d⟩) hd
  · rw [ei.scp]; exact ei.kind
  · show env.scope.names.lookup x = _; rw [ei.scp]; exact hx
  · rw [ei.loc]; exact hm

theorem fn_name {sc : Scope} {x : Str} {pos : Pos} {F : Fn} {A : Around} {env : Env} {L : Addr} {s : Shared} {E : Value → Shared → Prop} {Q : Value → Shared → Prop} (hT : TopIs T g)
    (hx : sc.names.lookup x = some .globalImplicit) (h : T.fn x = some F) (ei : EnvIs env sc L) (top : ∀ b o, g.get? b = some o → s.heap.get? b = some o) (hQ : Q (.ref F.a) s) :
    wpAny (model prog w) A (eval (.Name x pos) env) Q E s := by
  obtain ⟨mg, mb, hg, hb, h1, _, _⟩ := hT.names
  refine Name_function_global ?_ ?_ (loadGlobal_global (mg := mg) ?_ (h1 x F h) hQ) (hT.debug x (.inl (by rw [h]; rfl)))
  · rw [ei.scp]; exact ei.kind
  · show env.scope.names.lookup x = _; rw [ei.scp]; exact hx
  · rw [ei.gl]; exact hg.keeps top

theorem nat_name {sc : Scope} {x : Str} {pos : Pos} {a : Addr} {k : List AV → Option AV} {A : Around} {env : Env} {L : Addr} {s : Shared} {E : Value → Shared → Prop} {Q : Value → Shared → Prop} (hN : NatOk prog w T g)
    (hx : sc.names.lookup x = some .globalImplicit) (h : T.nat x = some (a, k)) (ei : EnvIs env sc L) (top : ∀ b o, g.get? b = some o → s.heap.get? b = some o) (hQ : Q (.ref a) s) :
    wpAny (model prog w) A (eval (.Name x pos) env) Q E s := by
  obtain ⟨mg, hg, h1⟩ := hN.name
  refine Name_function_global ?_ ?_ (loadGlobal_global (mg := mg) ?_ (h1 x a k h) hQ) (hN.debug x a k h)
  · rw [ei.scp]; exact ei.kind
  · show env.scope.names.lookup x = _; rw [ei.scp]; exact hx
  · rw [ei.gl]; exact hg.keeps top

theorem blt_name {sc : Scope} {x : Str} {pos : Pos} {u : Value} {A : Around} {env : Env} {L : Addr} {s : Shared} {E : Value → Shared → Prop} {Q : Value → Shared → Prop} (hT : TopIs T g)
    (hx : sc.names.lookup x = some .globalImplicit) (h : bltVal x = some u) (h1 : T.fn x = none) (h1' : T.nat x = none) (h2 : T.val x = none) (ei : EnvIs env sc L) (top : ∀ b o, g.get? b = some o → s.heap.get? b = some o) (hQ : Q u s) :
    wpAny (model prog w) A (eval (.Name x pos) env) Q E s := by
  obtain ⟨mg, mb, hg, hb, _, _, h3⟩ := hT.names
  obtain ⟨e1, e2⟩ := h3 x u h h1 h1' h2
  refine Name_function_global ?_ ?_ (loadGlobal_builtin (mg := mg) (mb := mb) ?_ e1 ?_ e2 hQ) ?_
  · rw [ei.scp]; exact ei.kind
  · show env.scope.names.lookup x = _; rw [ei.scp]; exact hx
  · rw [ei.gl]; exact Heap.Ns.keeps hg top
  · rw [ei.bl]; exact Heap.Ns.keeps hb top
  · unfold bltVal at h
    repeat' split at h
    all_goals first | (rename_i q; subst q; decide +kernel) | cases h

theorem val_nameQ {sc : Scope} {x : Str} {pos : Pos} {r : AV} {A : Around} {env : Env} {L : Addr} {s : Shared} {E : Value → Shared → Prop} {Q : Value → Shared → Prop} (hT : TopIs T g)
    (hx : sc.names.lookup x = some .globalImplicit) (h : T.val x = some r) (ei : EnvIs env sc L) (top : ∀ b o, g.get? b = some o → s.heap.get? b = some o) (hQ : ∀ u, Den (fun _ => none) u r → Q u s) :
    wpAny (model prog w) A (eval (.Name x pos) env) Q E s := by
  obtain ⟨mg, mb, hg, hb, _, h1, _⟩ := hT.names
  obtain ⟨u, d, q⟩ := h1 x r h
  have hQ := hQ u d
  have dbg := hT.debug x (.inr (by rw [h]; rfl))
  have e1 : env.scope.kind = .function := by rw [ei.scp]; exact ei.kind
  have e2 : env.kindOf x = some .globalImplicit := by show env.scope.names.lookup x = _; rw [ei.scp]; exact hx
  rcases q with q | ⟨q1, q2⟩
  · exact Name_function_global e1 e2 (loadGlobal_global (mg := mg) (by rw [ei.gl]; exact hg.keeps top) q hQ) dbg
  · exact Name_function_global e1 e2 (loadGlobal_builtin (mg := mg) (mb := mb) (by rw [ei.gl]; exact hg.keeps top) q1 (by rw [ei.bl]; exact hb.keeps top) q2 hQ) dbg
theorem val_name {sc : Scope} {x : Str} {pos : Pos} {r : AV} {A : Around} {env : Env} {hid : List Addr} {L : Addr} {s : Shared} {E : Value → Shared → Prop} (hT : TopIs T g)
    (hx : sc.names.lookup x = some .globalImplicit) (h : T.val x = some r) (ei : EnvIs env sc L) (top : ∀ b o, g.get? b = some o → s.heap.get? b = some o) :
    wpAny (model prog w) A (eval (.Name x pos) env) (Post (L :: hid) s r) E s := val_nameQ hT hx h ei top fun u d => ⟨kp_refl _, d.mono fun _ _ z => by cases z⟩

theorem const_ok {c : Const} {k : Nat} {pos : Pos} {r : AV} {A : Around} {env : Env} {hid : List Addr} {s : Shared} {E : Value → Shared → Prop} (h : constAV c = some r) :
    wpAny (model prog w) A (eval (.Constant c k pos) env) (Post hid s r) E s := by
  rw [eval_Constant]
  unfold constAV at h
  split at h <;> first | cases h | skip
  · exact wpAny_pure ⟨kp_refl _, .none⟩
  · exact wpAny_pure ⟨kp_refl _, .bool _⟩
  · exact wpAny_mkInt ⟨kp_tok _, .int _ _⟩
  · exact wpAny_mkText ⟨kp_tok _, .str _ _⟩
  · rename_i b
    refine wpAny_bind (wpAny_fresh (wpAny_pure ⟨kp_tok _, ?_⟩))
    have := Den.bytes (φ := vw s.heap hid) b.toArray s.toks
    simpa using this

theorem len_ok {α : Type} {a : AV} {k : AV → Qt α} {r : α} {v : Value} {A : Around} {hid : List Addr} {s : Shared} {E : Value → Shared → Prop} (h : (lenT a k).val = some r) (d : Den (vw s.heap hid) v a) : wpAny (model prog w) A (call (.builtin "len") [v]) (PostK hid s k r) E s := by
  cases a with
  | list xs =>
    obtain ⟨q, h⟩ := val_need h
    have q := of_decide_eq_true q
    obtain ⟨a, ws, rfl, ha, la, da⟩ := d.isList
    have hl := da.length
    refine Calls.call_len_list la ?_ ⟨kp_tok _, _, ?_, h⟩
    · rw [List.size_toArray]; lia
    · rw [List.size_toArray, hl]; exact .int _ _
  | bytes xs =>
    obtain ⟨q, h⟩ := val_need h
    have q := of_decide_eq_true q
    obtain ⟨b, t, rfl, rfl⟩ := d.inv_bytes
    have e : b.size = b.toList.length := by simp
    refine PySem.W.len_bytes (by lia) ⟨kp_tok _, _, ?_, h⟩
    rw [e]; exact .int _ _
  | _ => cases h
theorem bytes_ok {α : Type} {a : AV} {k : AV → Qt α} {r : α} {v : Value} {A : Around} {hid : List Addr} {s : Shared} {E : Value → Shared → Prop} (hh : A.handled = none) (h : (bytesT a k).val = some r) (d : Den (vw s.heap hid) v a) : wpAny (model prog w) A (call (.type "bytes") [v]) (PostK hid s k r) E s := by
  cases a with
  | list xs =>
    obtain ⟨l, hl, h⟩ := val_ofO h
    obtain ⟨q, h⟩ := val_need h
    obtain ⟨p, h⟩ := val_need h
    have p := of_decide_eq_true p
    obtain ⟨a, ws, rfl, ha, la, da⟩ := d.isList
    have hi := ints_of da hl
    refine call_bytes_ints la hi (fun n hn => of_decide_eq_true (List.all_eq_true.mp q n hn)) (by rw [hi.length, sizeLine_eq]; lia) hh fun h' t k' hk => ⟨⟨h', k', rfl, hk⟩, _, ?_, h⟩
    have := Den.bytes (φ := vw h' hid) (byteArr l) t
    simpa [byteArr] using this
  | _ => cases h
theorem blt_call {α : Type} {x : Str} {u : Value} {vs : List Value} {xs : List AV} {k : AV → Qt α} {r : α} {A : Around} {hid : List Addr} {s : Shared} {E : Value → Shared → Prop} (hh : A.handled = none)
    (hu : bltVal x = some u) (h : (bltT x xs k).val = some r) (d : DenAll (vw s.heap hid) vs xs) : wpAny (model prog w) A (call u vs) (PostK hid s k r) E s := by
  by_cases q : x = "min"
  · subst q
    cases hu
    cases xs with
    | nil => cases h
    | cons a xs =>
      have h : (ofO (one xs) fun b => int2 a b fun i j => k (.int (min i j))).val = some r := h
      obtain ⟨b, hb, h1⟩ := val_ofO h
      cases one_ok hb
      obtain ⟨v1, us, rfl, d1, e1⟩ := d.inv_cons
      obtain ⟨v2, us, rfl, d2, e2⟩ := e1.inv_cons
      cases e2.inv_nil
      obtain ⟨i, t, j, t', rfl, rfl, h2⟩ := int2_den h1 d1 d2
      refine min_two_ints hh fun h' tk k' => ⟨⟨h', tk, rfl, k'⟩, _, ?_, h2⟩
      by_cases q : j < i
      · rw [if_pos q, show min i j = j by lia]; exact .int _ _
      · rw [if_neg q, show min i j = i by lia]; exact .int _ _
  · unfold bltT at h
    rw [if_neg q] at h
    obtain ⟨a, ha, h1⟩ := val_ofO h
    clear h
    cases one_ok ha
    obtain ⟨v1, us, rfl, d1, e1⟩ := d.inv_cons
    cases e1.inv_nil
    by_cases q1 : x = "len"
    · subst q1; cases hu; rw [if_pos rfl] at h1; exact len_ok h1 d1
    · rw [if_neg q1] at h1
      by_cases q2 : x = "chr"
      · subst q2; cases hu; rw [if_pos rfl] at h1
        obtain ⟨i, hi, h2⟩ := val_ofO h1
        cases intOf_ok hi
        obtain ⟨q, h3⟩ := val_need h2
        have q := of_decide_eq_true q
        obtain ⟨t, rfl⟩ := d1.inv_int
        exact P.chr_of_int (by simp; lia) ⟨kp_tok _, _, .str _ _, h3⟩
      · rw [if_neg q2] at h1
        by_cases q3 : x = "bytes"
        · subst q3; cases hu; rw [if_pos rfl] at h1; exact bytes_ok hh h1 d1
        · rw [if_neg q3] at h1
          by_cases q4 : x = "type"
          · subst q4; cases hu; rw [if_pos rfl] at h1
            cases a with
            | bytes b =>
              obtain ⟨b, t, rfl, rfl⟩ := d1.inv_bytes
              exact call_type_of (typeIs_bytes s _ _) (by decide) ⟨kp_refl _, _, .typ _, h1⟩
            | bool b =>
              cases d1.inv_bool
              exact call_type_of (PySem.typeIs_bool s _) (by decide) ⟨kp_refl _, _, .typ _, h1⟩
            | _ => cases h1
          · rw [if_neg q4] at h1; cases h1

end
end Mine
end
/- M6 -/
section
open PySem PySem.W PyProof.Rows PySem.Calls
set_option Elab.async false
set_option linter.unusedVariables false
set_option linter.unusedSimpArgs false
namespace Mine

theorem DenAll.take {φ : Addr → Option Obj} {vs : List Value} {xs : List AV} (k : Nat) (d : DenAll φ vs xs) : DenAll φ (vs.take k) (xs.take k) :=
  d.ind (P := fun vs xs => ∀ k, DenAll φ (vs.take k) (xs.take k)) (fun k => by cases k <;> exact .nil) (fun _ _ _ _ h ih k => by
    cases k with
    | zero => exact .nil
    | succ k => exact .cons h (ih k)) k
theorem DenAll.drop {φ : Addr → Option Obj} {vs : List Value} {xs : List AV} (k : Nat) (d : DenAll φ vs xs) : DenAll φ (vs.drop k) (xs.drop k) := by
  induction k generalizing vs xs with
  | zero => exact d
  | succ k ih =>
    cases d with
    | nil => exact .nil
    | cons _ hs => exact ih hs

theorem pick2 (l : List Value) (a b : Nat) (hab : a ≤ b) : slicePick l.toArray (some (a : Int)) (some (b : Int)) none = ((l.drop a).take (b - a)).toArray := by
  rw [slicePick_plain]
  simp only [Option.elim, clipAt_nat, List.size_toArray]
  congr 1
  rcases Nat.le_total b l.length with h | h
  · rw [Nat.min_eq_left h, Nat.min_eq_left (Nat.le_trans hab h)]
  · rw [Nat.min_eq_right h]
    rcases Nat.le_total a l.length with q | q
    · rw [Nat.min_eq_left q, List.take_of_length_le (l := l.drop a) (i := l.length - a) (by simp), List.take_of_length_le (by simp; lia)]
    · rw [Nat.min_eq_right q, List.drop_of_length_le (l := l) (i := a) q]; simp

section
variable {prog : Program} {w : World} {T : Tab} {g : Heap}

theorem cut_ok {A : Around} {E : Value → Shared → Prop} {s : Shared} {hid : List Addr} {value : Expr} {lo up : Option Expr} {p : Pos} {xs : List AV} {u : Value} {a b : Nat} {vl vu : Value} {lo' : Option Int}
    (lv : Live hid s.heap) (hab : a ≤ b) (hsz : xs.length ≤ 1048576) (da : Den (vw s.heap hid) u (.list xs)) (pl : IsPart vl lo') (hlo : lo' = some (a : Int) ∨ (lo' = none ∧ a = 0)) (pu : IsPart vu (some (b : Int))) :
    wpAny (model prog w) A (subscriptTail value (.Slice lo up none p) u (.ref s.heap.objs.size)) (Post hid s (.list ((xs.drop a).take (b - a)))) E { s with heap := s.heap.push { cls := .type "slice", data := .fields #[vl, vu, .none] } } := by
  obtain ⟨x, vs, rfl, hx, lx, dx⟩ := da.isList
  have lx' : (s.heap.push { cls := .type "slice", data := .fields #[vl, vu, .none] }).IsList x vs.toArray := lx.push _
  refine tail_any (ops := [.ref s.heap.objs.size, .ref x]) (Heap.IsList.typeIs (s := { s with heap := s.heap.push { cls := .type "slice", data := .fields #[vl, vu, .none] } }) lx') slot_list_getitem.lookup
    (wpAny_getItem_list_slice lx' (Heap.IsSliceOf.new ..) pl pu .none (by simp) ?_ (by rw [List.size_toArray, dx.length, sizeLine_eq]; lia)) rfl
  have e : slicePick vs.toArray lo' (some (b : Int)) none = ((vs.drop a).take (b - a)).toArray := by
    rcases hlo with rfl | ⟨rfl, rfl⟩
    · exact pick2 vs a b hab
    · rw [slicePick_upto']; simp
  rw [e]
  have k1 : Keeps s { s with heap := s.heap.push { cls := .type "slice", data := .fields #[vl, vu, .none] } } := kp_push _
  refine ⟨kp_trans k1 (kp_push _), ?_⟩
  exact Den.newList (s := { s with heap := s.heap.push { cls := .type "slice", data := .fields #[vl, vu, .none] } }) (lv.keeps (kp_heap k1)) (((dx.kp k1).drop a).take (b - a))

theorem marks_is {e : Expr} {op : CmpOp} (h : isEv e = true) : behindInMarks op e = false := by
  cases e <;> first | rfl | cases h
theorem blt_kind {x : Str} {u : Value} (h : bltVal x = some u) : (∃ i, u = .builtin i) ∨ ∃ i, u = .type i := by
  unfold bltVal at h
  repeat' split at h
  all_goals first | (cases h; exact .inl ⟨_, rfl⟩) | (cases h; exact .inr ⟨_, rfl⟩) | cases h

theorem cut_list {xs : List AV} {i j : Int} {z : AV} (h : cut (.list xs) i j = some z) : (0 ≤ i ∧ i ≤ j ∧ xs.length ≤ 1048576) ∧ z = .list ((xs.drop i.toNat).take (j.toNat - i.toNat)) := by
  have h : (if 0 ≤ i ∧ i ≤ j ∧ xs.length ≤ 1048576 then some (AV.list ((xs.drop i.toNat).take (j.toNat - i.toNat))) else none) = some z := h
  by_cases q : 0 ≤ i ∧ i ≤ j ∧ xs.length ≤ 1048576
  · rw [if_pos q] at h; cases h; exact ⟨q, rfl⟩
  · rw [if_neg q] at h; cases h
theorem ev_succ {n : Nat} (hT : TopIs T g) (hN : NatOk prog w T g) (i1 : EvK prog w T g n) (i2 : EvsK prog w T g n) (i3 : TrK prog w T g n) (i4 : CallK prog w T g n) : EvK prog w T g (n + 1) := by
  intro α sc e f k r h A env hid L oa s E c ei F
  have lvL : Live (L :: hid) s.heap := by
    intro b hb
    rcases List.mem_cons.mp hb with rfl | hb
    · obtain ⟨m, ⟨o, es, ep, e, _⟩, _⟩ := F.ns; exact ⟨o, e⟩
    · exact F.live b hb
  have go : ∀ {e : Expr} {K : AV → Qt α} {Q : Value → Shared → Prop}, (evT T sc n e f K).val = some r → (∀ u s₁ a, Keeps s s₁ → Den (vw s₁.heap (L :: hid)) u a → (K a).val = some r → Q u s₁) → wpAny (model prog w) A (eval e env) Q E s := fun h hQ =>
    wpAny_mono (i1 sc _ f _ r h A env hid L oa s E c.less ei F) (fun u s₁ h₁ => by obtain ⟨k1, a, d, h⟩ := h₁; exact hQ u s₁ a k1 d h) fun _ _ z => z
  have two : ∀ {l r' : Expr} {K : AV → AV → Qt α} {Q : Value → Value → Shared → Prop}, (evT T sc n l f fun a => evT T sc n r' f fun b => K a b).val = some r →
      (∀ u v s₂ a b, Keeps s s₂ → Den (vw s₂.heap (L :: hid)) u a → Den (vw s₂.heap (L :: hid)) v b → (K a b).val = some r → Q u v s₂) →
      wpAny (model prog w) A (eval l env) (fun u s₁ => wpAny (model prog w) A (eval r' env) (fun v s₂ => Q u v s₂) E s₁) E s := fun h hQ => by
    refine go h fun u s₁ a k1 d1 h => ?_
    refine wpAny_mono (i1 sc _ f _ r h A env hid L oa s₁ E c.less ei (F.ex k1)) (fun v s₂ h₂ => ?_) fun _ _ z => z
    obtain ⟨k2, b, d2, h⟩ := h₂
    exact hQ u v s₂ a b (kp_trans k1 k2) (d1.kp k2) d2 h
  cases e with
  | Constant cc kk pos =>
    obtain ⟨v, hv, h⟩ := val_ofO h
    exact wpAny_mono (const_ok hv) (fun _ _ z => ⟨z.1, _, z.2, h⟩) fun _ _ z => z
  | Name x pos =>
    have h : (nameT T sc x f k).val = some r := h
    unfold nameT at h
    by_cases q : sc.names.lookup x = some .local
    · rw [if_pos q] at h
      by_cases q2 : (x == ("__debug__" : Str)) = true
      · rw [if_pos q2] at h; cases h
      · rw [if_neg q2] at h
        obtain ⟨v, hv, h⟩ := val_ofO h
        exact wpAny_mono (name_ok q hv ei F (by simpa using q2)) (fun _ _ z => ⟨z.1, _, z.2, h⟩) fun _ _ z => z
    · rw [if_neg q] at h
      obtain ⟨q, h⟩ := val_if h
      obtain ⟨v, hv, h⟩ := val_ofO h
      exact wpAny_mono (val_name hT q hv ei F.top) (fun _ _ z => ⟨z.1, _, z.2, h⟩) fun _ _ z => z
  | BinOp l op r' pos =>
    refine wpAny_BinOp (two h fun u v s₂ a b k2 du dv h => ?_)
    exact wpAny_mono (binT_ok (lvL.keeps (kp_heap k2)) h du dv) (fun x s₃ h₃ => ⟨kp_trans k2 h₃.1, h₃.2⟩) fun _ _ z => z
  | UnaryOp op x pos =>
    cases op with
    | USub =>
      show wpAny _ _ (do let v ← eval x env; standAt pos; holding [v] (unaryOp .USub v)) _ _ _
      refine wpAny_bind (go (K := fun a => ofO (intOf a) fun i => k (.int (-i))) h fun u s₁ a k1 d h => wpAny_bind (wpAny_standAt (wpAny_holding ?_)))
      obtain ⟨i, hi, h⟩ := val_ofO h
      cases intOf_ok hi
      obtain ⟨t, rfl⟩ := d.inv_int
      exact P.neg_int ⟨kp_trans k1 (kp_tok _), _, .int _ _, h⟩
    | _ => cases h
  | Compare l ops rs pos =>
    obtain ⟨op, ho, h1⟩ := val_ofO h
    obtain ⟨r', hr, h2⟩ := val_ofO h1
    obtain ⟨hm, h3⟩ := val_if h2
    cases one_ok ho
    cases one_ok hr
    refine wpAny_Compare1 (two h3 fun u v s₂ a b k2 du dv h4 => ?_) (marks_is hm)
    obtain ⟨q, hq, h5⟩ := val_ofO h4
    exact wpAny_mono (cmpAll_ok c.hand (by have := c.units; lia) hq du dv) (fun x s₃ h₃ => by obtain ⟨rfl, k3⟩ := h₃; exact ⟨kp_trans k2 k3, _, .bool _, h5⟩) fun _ _ z => z
  | IfExp t b o pos =>
    have h : (trT T sc n t f fun c => cond c (evT T sc n b f k) (evT T sc n o f k)).val = some r := h
    refine IfExp_ (wpAny_mono (i3 sc t f _ r h A env hid L oa s E c.less ei F) (fun q s₁ h₁ => ?_) fun _ _ z => z)
    obtain ⟨k1, h⟩ := h₁
    cases q <;> exact wpAny_mono (i1 sc _ f k r h A env hid L oa s₁ E c.less ei (F.ex k1)) (fun u s₂ h₂ => ⟨kp_trans k1 h₂.1, h₂.2⟩) fun _ _ z => z
  | List es pos =>
    have h : (evsT T sc n es f fun xs => .need (decide (xs.length ≤ 1048576)) (k (.list xs))).val = some r := h
    refine List_ (wpAny_mono (i2 sc es f _ r h A env hid L oa s pos E c.less ei F) (fun vs s₁ h₁ => ?_) fun _ _ z => z)
    obtain ⟨k1, xs, d, h⟩ := h₁
    obtain ⟨q, h⟩ := val_need h
    have q := of_decide_eq_true q
    refine wpAny_newList ⟨kp_trans k1 (kp_push _), _, Den.newList (lvL.keeps (kp_heap k1)) d, h⟩ ?_
    rw [d.length, sizeLine_eq]; lia
  | Subscript v i pos =>
    have h : (match sliceOf i with
      | some p => evT T sc n v f fun a => (match p.1 with
        | some lo => evT T sc n lo f fun i => evT T sc n p.2 f fun j => int2 i j fun i j => ofO (cut a i j) k
        | none => evT T sc n p.2 f fun j => ofO (intOf j) fun j => ofO (cut a 0 j) k)
      | none => if noSlice i = true then evT T sc n v f fun a => evT T sc n i f fun b => itemT (isNm v) a b k else .fail).val = some r := h
    cases hs : sliceOf i with
    | none =>
      rw [hs] at h
      obtain ⟨hi, h⟩ := val_if h
      refine Subscript_ (two h fun u v' s₂ a b k2 du dv h => ?_)
      obtain ⟨x, hx, h⟩ := itemT_ok h
      exact wpAny_mono (item_ok hi hx du dv) (fun _ s₃ h₃ => ⟨kp_trans k2 h₃.1, _, h₃.2, h⟩) fun _ _ z => z
    | some p =>
      obtain ⟨lo, up⟩ := p
      rw [hs] at h
      obtain ⟨sp, hi⟩ := sliceOf_ok hs
      clear hs
      subst hi
      cases lo with
      | some lo =>
        refine Subscript_ (go (K := fun a => evT T sc n lo f fun i => evT T sc n up f fun j => int2 i j fun i j => ofO (cut a i j) k) h fun u s₁ a k1 d1 h1 => wpAny_Slice ?_)
        rw [evalPart_some, evalPart_some, evalPart_none]
        refine wpAny_mono (i1 sc lo f _ r h1 A env hid L oa s₁ E c.less ei (F.ex k1)) (fun x s₂ h₂ => ?_) fun _ _ z => z
        obtain ⟨k2, xa, dx, h2⟩ := h₂
        have k12 := kp_trans k1 k2
        refine wpAny_mono (i1 sc up f _ r h2 A env hid L oa s₂ E c.less ei (F.ex k12)) (fun y s₃ h₃ => ?_) fun _ _ z => z
        obtain ⟨k3, ya, dy, h3⟩ := h₃
        obtain ⟨i', j', rfl, rfl, h4⟩ := int2_ok h3
        obtain ⟨t1, rfl⟩ := dx.inv_int
        obtain ⟨t2, rfl⟩ := dy.inv_int
        obtain ⟨z, hz, h5⟩ := val_ofO h4
        cases a with
        | list xs =>
          obtain ⟨q, rfl⟩ := cut_list hz
          refine wpAny_pure ?_
          obtain ⟨a', rfl⟩ := Int.eq_ofNat_of_zero_le q.1
          obtain ⟨b', rfl⟩ := Int.eq_ofNat_of_zero_le (Int.le_trans q.1 q.2.1)
          exact wpAny_mono (cut_ok (a := a') (b := b') (lvL.keeps (kp_heap (kp_trans k12 k3))) (by lia) q.2.2 ((d1.kp k2).kp k3) (.int _ _) (.inl rfl) (.int _ _)) (fun z s₄ h₄ => ⟨kp_trans (kp_trans k12 k3) h₄.1, _, h₄.2, h5⟩) fun _ _ z => z
        | _ => cases hz
      | none =>
        refine Subscript_ (go (K := fun a => evT T sc n up f fun j => ofO (intOf j) fun j => ofO (cut a 0 j) k) h fun u s₁ a k1 d1 h1 => wpAny_Slice ?_)
        rw [evalPart_some, evalPart_none]
        refine wpAny_pure ?_
        refine wpAny_mono (i1 sc up f _ r h1 A env hid L oa s₁ E c.less ei (F.ex k1)) (fun y s₃ h₃ => ?_) fun _ _ z => z
        obtain ⟨k3, ya, dy, h3⟩ := h₃
        obtain ⟨j', hj, h4⟩ := val_ofO h3
        cases intOf_ok hj
        obtain ⟨t2, rfl⟩ := dy.inv_int
        obtain ⟨z, hz, h5⟩ := val_ofO h4
        cases a with
        | list xs =>
          obtain ⟨q, rfl⟩ := cut_list hz
          refine wpAny_pure ?_
          obtain ⟨b', rfl⟩ := Int.eq_ofNat_of_zero_le (Int.le_trans q.1 q.2.1)
          exact wpAny_mono (cut_ok (a := 0) (b := b') (lvL.keeps (kp_heap (kp_trans k1 k3))) (by lia) q.2.2 (d1.kp k3) .none (.inr ⟨rfl, rfl⟩) (.int _ _)) (fun z s₄ h₄ => ⟨kp_trans (kp_trans k1 k3) h₄.1, _, h₄.2, h5⟩) fun _ _ z => z
        | _ => cases hz
  | Call fn args kws pos =>
    obtain ⟨⟨x, e, es⟩, hc, h1⟩ := val_ofO h
    obtain ⟨⟨hx, hcan⟩, h2⟩ := val_if h1
    clear h1 h
    obtain ⟨⟨xp, cp, he⟩, hall⟩ := gcall_ok hc
    clear hc
    cases he
    have h : (evsT T sc n (e :: es) f fun xs => (match T.fn x with
      | some F => callT T n F xs k
      | none => natT T n x xs k)).val = some r := h2
    have hall' : (isEv e && es.all isEv) = true := hall
    have hst : starEach (e :: es) env = (false, eval e env) :: starEach es env := star_is (Bool.and_eq_true_iff.mp hall').1 es env
    have pl : (backTo pos (starEach es env)).any (·.1) = false := stars_are (Bool.and_eq_true_iff.mp hall').2
    refine Call_ ?_
    have args : ∀ {Q : List Value → Shared → Prop}, (∀ vs s₁ xs, Keeps s s₁ → DenAll (vw s₁.heap (L :: hid)) vs xs → (match T.fn x with | some F => callT T n F xs k | none => natT T n x xs k).val = some r → Q vs s₁) → wpAny (model prog w) A (spliced (backTo pos (starEach (e :: es) env))) Q E s := fun hQ =>
      wpAny_mono (i2 sc (e :: es) f _ r h A env hid L oa s pos E c.less ei F) (fun vs s₁ h₁ => by obtain ⟨k1, xs, d, h⟩ := h₁; exact hQ vs s₁ xs k1 d h) fun _ _ z => z
    cases hF : T.fn x with
    | some F' =>
      refine fn_name hT hx hF ei F.top ?_
      obtain ⟨wf, ⟨o, ho, hd⟩, hcd⟩ := hT.fns x F' hF
      refine callWith_def hd (args fun vs s₁ xs k1 d h => ?_) hst
      rw [hF] at h
      refine ⟨kp_heap k1 _ _ (F.top _ _ ho), ?_⟩
      exact wpAny_mono (i4 x F' xs k r hF h A (L :: hid) s₁ vs E c.less (lvL.keeps (kp_heap k1)) (fun b o e => kp_heap k1 b o (F.top b o e)) d) (fun z s₂ h₂ => ⟨kp_trans k1 h₂.1, h₂.2⟩) fun _ _ z => z
    | none =>
      rw [hF] at args
      cases hK : T.nat x with
      | some p =>
        obtain ⟨a', k'⟩ := p
        refine nat_name hN hx hK ei F.top ?_
        obtain ⟨o, fd, ho, hd⟩ := hN.obj x a' k' hK
        refine callWith_def hd (args fun vs s₁ xs k1 d h => ?_) hst
        refine ⟨kp_heap k1 _ _ (F.top _ _ ho), ?_⟩
        have h : (match T.nat x with | some p => if 100 ≤ n then ofO (p.2 xs) k else .fail | none => bltT x xs k).val = some r := h
        rw [hK] at h
        obtain ⟨hn, h⟩ := val_if h
        obtain ⟨z, hz, h⟩ := val_ofO h
        exact wpAny_mono (hN.ok x a' k' hK xs z hz A (L :: hid) s₁ vs E (c.mono (by lia)) (lvL.keeps (kp_heap k1)) (fun b o e => kp_heap k1 b o (F.top b o e)) d) (fun z s₂ h₂ => ⟨kp_trans k1 h₂.1, _, h₂.2, h⟩) fun _ _ z => z
      | none =>
        have blt : ∀ u, bltVal x = some u → wpAny (model prog w) A (callWith pos u [] (backTo pos (starEach (e :: es) env)) []) (PostK (L :: hid) s k r) E s := by
          intro u hu
          have fin : wpAny (model prog w) A (spliced (backTo pos (starEach (e :: es) env))) (fun vs s₁ => wpAny (model prog w) A (call u vs) (PostK (L :: hid) s k r) E s₁) E s := args fun vs s₁ xs k1 d h => by
            have h : (match T.nat x with | some p => if 100 ≤ n then ofO (p.2 xs) k else .fail | none => bltT x xs k).val = some r := h
            rw [hK] at h
            exact wpAny_mono (blt_call c.hand hu h d) (fun z s₂ h₂ => ⟨kp_trans k1 h₂.1, h₂.2⟩) fun _ _ z => z
          rcases blt_kind hu with ⟨i, rfl⟩ | ⟨i, rfl⟩
          · exact callWith_builtin1 fin hst pl
          · exact PyProof.Rows.callWith_type1 fin hst pl
        have hcan : ((T.fn x).isSome || ((T.nat x).isSome || (match T.val x with
          | none => (bltVal x).isSome
          | some v => (match typOf v with
            | some m => decide (bltVal x = some (.type m))
            | none => false)))) = true := hcan
        rw [hF, hK] at hcan
        cases hV : T.val x with
        | none =>
          rw [hV] at hcan
          cases hu : bltVal x with
          | some u => exact blt_name hT hx hu hF hK hV ei F.top (blt u hu)
          | none => rw [hu] at hcan; cases hcan
        | some v =>
          rw [hV] at hcan
          cases hm : typOf v with
          | none => have hcan : (match typOf v with | some m => decide (bltVal x = some (.type m)) | none => false) = true := hcan; rw [hm] at hcan; cases hcan
          | some m =>
            have hcan : (match typOf v with | some m => decide (bltVal x = some (.type m)) | none => false) = true := hcan
            rw [hm] at hcan
            cases typOf_ok hm
            refine val_nameQ hT hx hV ei F.top fun u d => ?_
            cases d.inv_typ
            exact blt _ (of_decide_eq_true hcan)
  | _ => cases h

theorem tr_succ {n : Nat} (i1 : EvK prog w T g n) (i3 : TrK prog w T g n) : TrK prog w T g (n + 1) := by
  intro α sc e f k r h A env hid L oa s E c ei F
  have plain : ∀ {e : Expr}, (evT T sc n e f fun a => ofO (truth a) fun c => .ask c (k true) (k false)).val = some r → isTrue e env (eval e env) = (do let v ← eval e env; standAt e.pos; holding [v] (truthy v)) →
      wpAny (model prog w) A (isTrue e env (eval e env)) (fun c s' => Keeps s s' ∧ (k c).val = some r) E s := by
    intro e h he
    refine isTrue_plain (wpAny_mono (i1 sc e f _ r h A env hid L oa s E c.less ei F) (fun u s₁ h₁ => ?_) fun _ _ z => z) he
    obtain ⟨k1, a, d, h⟩ := h₁
    obtain ⟨q, hq, h⟩ := val_ofO h
    refine wpAny_mono (truth_ok hq d) (fun x s₂ h₂ => ?_) fun _ _ z => z
    obtain ⟨rfl, rfl⟩ := h₂
    rcases val_ask h with ⟨rfl, h⟩ | ⟨rfl, h⟩ <;> exact ⟨k1, h⟩
  cases e with
  | Compare l ops rs pos =>
    obtain ⟨op, ho, h1⟩ := val_ofO h
    obtain ⟨r', hr, h2⟩ := val_ofO h1
    obtain ⟨hm, h3⟩ := val_if h2
    cases one_ok ho
    cases one_ok hr
    refine wpAny_isTrue_Compare1 (wpAny_mono (i1 sc l f _ r h3 A env hid L oa s E c.less ei F) (fun u s₁ h₁ => ?_) fun _ _ z => z) (marks_is hm)
    obtain ⟨k1, a, d1, h4⟩ := h₁
    refine wpAny_mono (i1 sc r' f _ r h4 A env hid L oa s₁ E c.less ei (F.ex k1)) (fun v s₂ h₂ => ?_) fun _ _ z => z
    obtain ⟨k2, b, d2, h5⟩ := h₂
    obtain ⟨q, hq, h6⟩ := val_ofO h5
    refine wpAny_mono (cmpAll_ok c.hand (by have := c.units; lia) hq (d1.kp k2) d2) (fun x s₃ h₃ => ?_) fun _ _ z => z
    obtain ⟨rfl, k3⟩ := h₃
    have k13 := kp_trans (kp_trans k1 k2) k3
    rcases val_ask h6 with ⟨rfl, h⟩ | ⟨rfl, h⟩ <;> exact wpAny_truthy_bool ⟨k13, h⟩
  | UnaryOp op x pos =>
    cases op with
    | Not =>
      exact isTrue_not (wpAny_mono (i3 sc x f (fun b => k (!b)) r h A env hid L oa s E c.less ei F) (fun q s₁ h₁ => h₁) fun _ _ z => z)
    | _ => cases h
  | BoolOp op vs pos =>
    cases op with
    | And =>
      cases vs with
      | nil => exact isTrue_and_nil ⟨kp_refl _, h⟩
      | cons x rest =>
        refine isTrue_and (wpAny_mono (i3 sc x f (fun c => cond c (trT T sc n (.BoolOp .And rest pos) f k) (k false)) r h A env hid L oa s E c.less ei F) (fun q s₁ h₁ => ?_) fun _ _ z => z)
        obtain ⟨k1, h⟩ := h₁
        cases q with
        | false => exact ⟨k1, h⟩
        | true => exact wpAny_mono (i3 sc (.BoolOp .And rest pos) f k r h A env hid L oa s₁ E c.less ei (F.ex k1)) (fun q s₂ h₂ => ⟨kp_trans k1 h₂.1, h₂.2⟩) fun _ _ z => z
    | Or =>
      cases vs with
      | nil => exact isTrue_or_nil ⟨kp_refl _, h⟩
      | cons x rest =>
        refine isTrue_or (wpAny_mono (i3 sc x f (fun c => cond c (k true) (trT T sc n (.BoolOp .Or rest pos) f k)) r h A env hid L oa s E c.less ei F) (fun q s₁ h₁ => ?_) fun _ _ z => z)
        obtain ⟨k1, h⟩ := h₁
        cases q with
        | true => exact ⟨k1, h⟩
        | false => exact wpAny_mono (i3 sc (.BoolOp .Or rest pos) f k r h A env hid L oa s₁ E c.less ei (F.ex k1)) (fun q s₂ h₂ => ⟨kp_trans k1 h₂.1, h₂.2⟩) fun _ _ z => z
  | Name x p => exact plain h rfl
  | Call fn args kws p => exact plain h rfl
  | _ => cases h
end
end Mine
end
/- M7 -/
section
open PySem PySem.W PyProof.Rows PySem.Calls
set_option Elab.async false
set_option linter.unusedVariables false
set_option linter.unusedSimpArgs false
namespace Mine

/-- the state has grown, but at W it may have changed -/
noncomputable def KB (W : List Addr) (s s' : Shared) : Prop := ∃ h' tk, s' = { s with heap := h', toks := tk } ∧ ∀ b o, b ∉ W → s.heap.get? b = some o → h'.get? b = some o
theorem KB.of_keeps {W : List Addr} {s s' : Shared} (k : Keeps s s') : KB W s s' := let ⟨h, t, e, x⟩ := k; ⟨h, t, e, fun b o _ q => x b o q⟩
theorem KB.heap {W : List Addr} {s s' : Shared} (k : KB W s s') : ∀ b o, b ∉ W → s.heap.get? b = some o → s'.heap.get? b = some o := by
  obtain ⟨h, t, rfl, x⟩ := k; exact x
theorem KB.trans {W W' W'' : List Addr} {s s' s'' : Shared} (a : KB W s s') (b : KB W' s' s'') (h : ∀ x o, s.heap.get? x = some o → x ∉ W'' → x ∉ W ∧ x ∉ W') : KB W'' s s'' := by
  obtain ⟨h1, t1, rfl, x1⟩ := a
  obtain ⟨h2, t2, rfl, x2⟩ := b
  exact ⟨h2, t2, rfl, fun b o n e => x2 b o (h b o e n).2 (x1 b o (h b o e n).1 e)⟩
theorem KB.keeps {W : List Addr} {s s' : Shared} (a : KB W s s') (h : ∀ x ∈ W, s.heap.get? x = none) : Keeps s s' := by
  obtain ⟨h1, t1, rfl, x1⟩ := a
  exact ⟨h1, t1, rfl, fun b o e => x1 b o (fun q => by rw [h b q] at e; cases e) e⟩

noncomputable def OwnOf (oa oa' : Option Addr) (s : Shared) : Prop := ∀ a, oa' = some a → oa = some a ∨ s.heap.get? a = none

/-- what a statement leaves -/
noncomputable def SOut (g : Heap) (hid : List Addr) (L : Addr) (oa : Option Addr) (s : Shared) : Out → Flow → Shared → Prop
  | .next f, .next, s' => ∃ oa', FrameAt g hid L oa' f s'.heap ∧ KB (L :: oa.toList) s s' ∧ OwnOf oa oa' s
  | .brk f, .brk, s' => ∃ oa', FrameAt g hid L oa' f s'.heap ∧ KB (L :: oa.toList) s s' ∧ OwnOf oa oa' s
  | .cont f, .cont, s' => ∃ oa', FrameAt g hid L oa' f s'.heap ∧ KB (L :: oa.toList) s s' ∧ OwnOf oa oa' s
  | .ret v, .ret u, s' => Den (vw s'.heap (L :: hid)) u v ∧ KB (L :: oa.toList) s s'
  | _, _, _ => False

theorem kb_own {L : Addr} {oa oa' : Option Addr} {s s' s'' : Shared} (a : KB (L :: oa.toList) s s') (o : OwnOf oa oa' s) (b : KB (L :: oa'.toList) s' s'') : KB (L :: oa.toList) s s'' := by
  refine a.trans b fun x ob e n => ⟨n, fun hx => ?_⟩
  rcases List.mem_cons.mp hx with rfl | hx
  · exact n (List.mem_cons_self ..)
  · have : oa' = some x := by cases oa' <;> simp at hx; rw [hx]
    rcases o x this with q | q
    · exact n (by rw [q]; simp)
    · rw [q] at e; cases e
theorem own_own {oa oa' oa'' : Option Addr} {W : List Addr} {s s' : Shared} (a : KB W s s') (hW : ∀ x ∈ W, ∀ y, oa'' = some y → y ≠ x ∨ oa = some y) (o : OwnOf oa oa' s) (o' : OwnOf oa' oa'' s') : OwnOf oa oa'' s := by
  intro x e
  rcases o' x e with q | q
  · exact o x q
  · cases h : s.heap.get? x with
    | none => exact .inr rfl
    | some ob =>
      by_cases hx : x ∈ W
      · rcases hW x hx x e with z | z
        · exact absurd rfl z
        · exact .inl z
      · rw [a.heap x ob hx h] at q; cases q
theorem FrameAt.ne {g : Heap} {hid : List Addr} {L : Addr} {a : Addr} {f : FS} {h : Heap} (F : FrameAt g hid L (some a) f h) : a ≠ L := by
  obtain ⟨m, hm, hl⟩ := F.ns
  cases ho : f.o with
  | none => rw [ho] at hl; exact hl.elim
  | some p =>
    obtain ⟨y, xs⟩ := p
    rw [ho] at hl
    intro e
    exact hl.2.1 (e ▸ List.mem_cons_self ..)

/-- one statement's outcome behind another's -/
theorem SOut.after {g : Heap} {hid : List Addr} {L : Addr} {oa oa' : Option Addr} {s s' : Shared} (k : KB (L :: oa.toList) s s') (o : OwnOf oa oa' s) {out : Out} {fl : Flow} {s'' : Shared} (x : SOut g hid L oa' s' out fl s'') : SOut g hid L oa s out fl s'' := by
  have key : ∀ {f : FS}, (∃ oa'', FrameAt g hid L oa'' f s''.heap ∧ KB (L :: oa'.toList) s' s'' ∧ OwnOf oa' oa'' s') → ∃ oa'', FrameAt g hid L oa'' f s''.heap ∧ KB (L :: oa.toList) s s'' ∧ OwnOf oa oa'' s := by
    intro f ⟨oa'', F, k', o'⟩
    refine ⟨oa'', F, kb_own k o k', own_own k (fun x hx y hy => ?_) o o'⟩
    subst hy
    rcases List.mem_cons.mp hx with rfl | hx
    · exact .inl F.ne
    · by_cases q : y = x
      · subst q
        cases oa with
        | none => simp at hx
        | some z => simp at hx; exact .inr (by rw [hx])
      · exact .inl q
  cases out <;> cases fl <;> first | exact x.elim | exact key x | exact ⟨x.1, kb_own k o x.2⟩

/-- a name is stored -/
theorem FrameAt.putK {g : Heap} {hid : List Addr} {L : Addr} {oa : Option Addr} {f : FS} {h h' : Heap} (F : FrameAt g hid L oa f h) {x : Str} {u : Value} {v : AV}
    (hn : ∀ m, h.Ns L m → h'.Ns L (fun y => if y = x then some u else m y)) (hs : ∀ b o, b ≠ L → h.get? b = some o → h'.get? b = some o) (d : Den (vw h' (L :: (oa.toList ++ hid))) u v) :
    ∃ oa', FrameAt g hid L oa' (f.put x v) h' ∧ ∀ a, oa' = some a → oa = some a := by
  obtain ⟨m, hm, hl⟩ := F.ns
  have hm' := hn m hm
  have mv : ∀ (hid' : List Addr), L ∈ hid' → ∀ a o, vw h hid' a = some o → vw h' hid' a = some o := by
    intro hid' hL a o e
    have q := vw_some e
    rw [vw_get q.2]
    exact hs a o (fun z => q.2 (z ▸ hL)) q.1
  have live : Live hid h' := fun b hb => by
    obtain ⟨o, e⟩ := F.live b hb
    exact ⟨o, hs b o (fun z => F.out (z ▸ hb)) e⟩
  have top : ∀ b o, g.get? b = some o → h'.get? b = some o := fun b o e => by
    exact hs b o (fun z => by rw [z, F.newL] at e; cases e) (F.top b o e)
  have names : ∀ (hid' : List Addr), L ∈ hid' → (∀ y w, f.l.lookup y = some w → ∃ u, m y = some u ∧ Den (vw h hid') u w) → Den (vw h' hid') u v →
      ∀ y w, ((x, v) :: f.l).lookup y = some w → ∃ u', (if y = x then some u else m y) = some u' ∧ Den (vw h' hid') u' w := by
    intro hid' hL hy hd y w e
    rw [List.lookup_cons] at e
    by_cases q : y = x
    · subst q
      simp only [beq_self_eq_true] at e
      cases e
      exact ⟨u, by simp, hd⟩
    · rw [beq_eq_false_iff_ne.mpr q] at e
      obtain ⟨u', h1, h2⟩ := hy y w e
      exact ⟨u', by rw [if_neg q]; exact h1, h2.mono (mv hid' hL)⟩
  cases ho : f.o with
  | none =>
    cases oa with
    | some a => rw [ho] at hl; exact hl.elim
    | none =>
      rw [ho] at hl
      refine ⟨none, ⟨⟨live, F.out, top, _, hm', ?_⟩, F.newL⟩, fun a z => z⟩
      simp only [FS.put, ho]
      exact names (L :: hid) (List.mem_cons_self ..) hl d
  | some p =>
    obtain ⟨y, xs⟩ := p
    cases oa with
    | none => rw [ho] at hl; exact hl.elim
    | some a =>
      rw [ho] at hl
      obtain ⟨h0, h1, h2, vs, h3, h4, h5⟩ := hl
      have sub : ∀ b, b ∈ L :: hid → b ∈ a :: L :: hid := fun b hb => List.mem_cons_of_mem _ hb
      by_cases q : y = x
      · refine ⟨none, ⟨⟨live, F.out, top, _, hm', ?_⟩, F.newL⟩, fun a z => by cases z⟩
        simp only [FS.put, ho, if_pos q]
        refine names (L :: hid) (List.mem_cons_self ..) (fun z w e => ?_) (d.mono (vw_mono (fun _ _ e => e) fun b hb => ?_))
        · obtain ⟨u', e1, e2⟩ := h5 z w e
          exact ⟨u', e1, e2.mono (vw_mono (fun _ _ e => e) sub)⟩
        · rcases List.mem_cons.mp hb with rfl | hb
          · exact List.mem_cons_self ..
          · exact List.mem_cons_of_mem _ (List.mem_append_right _ hb)
      · refine ⟨some a, ⟨⟨live, F.out, top, _, hm', ?_⟩, F.newL⟩, fun a z => z⟩
        simp only [FS.put, ho, if_neg q]
        have ne : a ≠ L := fun e => h1 (e ▸ List.mem_cons_self ..)
        have hL : L ∈ a :: L :: hid := List.mem_cons_of_mem _ (List.mem_cons_self ..)
        refine ⟨h0, h1, h2, vs, ?_, h4.mono (mv _ hL), names _ hL h5 (d.mono (vw_mono (fun _ _ e => e) fun b hb => ?_))⟩
        · obtain ⟨n, e⟩ := h3
          exact ⟨n, hs a _ ne e⟩
        · simp only [List.mem_cons, Option.toList, List.cons_append, List.nil_append] at hb ⊢
          rcases hb with h | h | h
          · exact .inr (.inl h)
          · exact .inl h
          · exact .inr (.inr h)

theorem FrameAt.put {g : Heap} {hid : List Addr} {L : Addr} {oa : Option Addr} {f : FS} {h h' : Heap} (F : FrameAt g hid L oa f h) {x : Str} {u : Value} {v : AV}
    (hn : ∀ m, h.Ns L m → h'.Ns L (fun y => if y = x then some u else m y)) (hs : Heap.SameBut L h h') (d : Den (vw h (L :: (oa.toList ++ hid))) u v) :
    ∃ oa', FrameAt g hid L oa' (f.put x v) h' ∧ ∀ a, oa' = some a → oa = some a :=
  F.putK hn (fun b o n e => by rw [hs.2 b n]; exact e) (d.mono fun a o e => by
    have q := vw_some e
    rw [vw_get q.2, hs.2 a (fun z => q.2 (z ▸ List.mem_cons_self ..))]
    exact q.1)

/-- the own list is changed -/
theorem FrameAt.setOwn {g : Heap} {hid : List Addr} {L a : Addr} {f : FS} {h h' : Heap} (F : FrameAt g hid L (some a) f h) {y : Str} {xs xs' : List AV} (ho : f.o = some (y, xs)) {vs' : List Value}
    (hs : Heap.SameBut a h h') (hl' : IsL h' a vs') (d : DenAll (vw h (a :: L :: hid)) vs' xs') : FrameAt g hid L (some a) ⟨f.l, some (y, xs')⟩ h' := by
  obtain ⟨m, hm, hl⟩ := F.ns
  rw [ho] at hl
  obtain ⟨h0, h1, h2, vs, h3, h4, h5⟩ := hl
  have ne : a ≠ L := fun e => h1 (e ▸ List.mem_cons_self ..)
  have mv : ∀ b o, vw h (a :: L :: hid) b = some o → vw h' (a :: L :: hid) b = some o := by
    intro b o e
    have q := vw_some e
    rw [vw_get q.2, hs.2 b (fun z => q.2 (z ▸ List.mem_cons_self ..))]
    exact q.1
  refine ⟨⟨fun b hb => ?_, F.out, fun b o e => ?_, m, hm.sameBut hs ne.symm, h0, h1, h2, vs', hl', d.mono mv, fun z w e => ?_⟩, F.newL⟩
  · obtain ⟨o, e⟩ := F.live b hb
    exact ⟨o, by rw [hs.2 b (fun z => h1 (z ▸ List.mem_cons_of_mem _ hb))]; exact e⟩
  · rw [hs.2 b (fun z => by rw [z, h0] at e; cases e)]; exact F.top b o e
  · obtain ⟨u, e1, e2⟩ := h5 z w e
    exact ⟨u, e1, e2.mono mv⟩

theorem look_self {z : Str} : ∀ l : List (Str × AV), (l.filter (fun p => !(p.1 == z))).lookup z = none
  | [] => rfl
  | (k, v) :: r => by
    rw [List.filter_cons]
    by_cases q : k = z
    · subst q
      simp only [beq_self_eq_true, Bool.not_true]
      exact look_self r
    · have e : (z == k) = false := beq_eq_false_iff_ne.mpr (Ne.symm q)
      simp only [beq_eq_false_iff_ne.mpr q, Bool.not_false, if_true, List.lookup, e]
      exact look_self r
theorem look_other {z x : Str} (ne : z ≠ x) : ∀ {l : List (Str × AV)}, (l.filter (fun p => !(p.1 == x))).lookup z = l.lookup z
  | [] => rfl
  | (k, v) :: r => by
    rw [List.filter_cons]
    by_cases q : k = x
    · subst q
      have e : (z == k) = false := beq_eq_false_iff_ne.mpr ne
      simp only [beq_self_eq_true, Bool.not_true, List.lookup, e]
      simpa using look_other ne (l := r)
    · simp only [beq_eq_false_iff_ne.mpr q, Bool.not_false, if_true, List.lookup, look_other ne (l := r)]

/-- a list of its own -/
theorem FrameAt.newOwn {g : Heap} {hid : List Addr} {L a : Addr} {f : FS} {h h' : Heap} (F : FrameAt g hid L none f h) (hf : f.o = none) {x : Str} (ha : h.get? a = none)
    (hn : ∀ m, h.Ns L m → h'.Ns L (fun y => if y = x then some (.ref a) else m y)) (hs : ∀ b o, b ≠ L → h.get? b = some o → h'.get? b = some o) (hl' : IsL h' a []) : FrameAt g hid L (some a) (f.putOwn x []) h' := by
  obtain ⟨m, hm, hl⟩ := F.ns
  rw [hf] at hl
  have hL : a ≠ L := fun e => by have := hm.lt; obtain ⟨o, _, _, eo, _⟩ := hm; rw [← e, ha] at eo; cases eo
  refine ⟨⟨fun b hb => ?_, F.out, fun b o e => ?_, _, hn m hm, ?_, ?_, by simp, [], hl', .nil, fun z w e => ?_⟩, F.newL⟩
  · obtain ⟨o, e⟩ := F.live b hb
    exact ⟨o, hs b o (fun z => F.out (z ▸ hb)) e⟩
  · exact hs b o (fun z => by rw [z, F.newL] at e; cases e) (F.top b o e)
  · cases e : g.get? a with
    | none => rfl
    | some o => rw [F.top a o e] at ha; cases ha
  · intro hb
    rcases List.mem_cons.mp hb with e | hb
    · exact hL e
    · exact F.live.fresh ha hb
  · have e : (f.l.filter (fun p => !(p.1 == x))).lookup z = some w := e
    have ne : z ≠ x := by
      intro q; subst q
      rw [look_self] at e; cases e
    rw [look_other ne] at e
    obtain ⟨u, e1, e2⟩ := hl z w e
    refine ⟨u, by rw [if_neg ne]; exact e1, e2.mono fun b o q => ?_⟩
    have q' := vw_some q
    have nb : b ≠ a := fun z => by rw [z, ha] at q'; cases q'.1
    rw [vw_get (by intro hb; rcases List.mem_cons.mp hb with z | z; exact nb z; exact q'.2 z)]
    exact hs b o (fun z => q'.2 (z ▸ List.mem_cons_self ..)) q'.1
end Mine
end
/- M8 -/
section
open PySem PySem.W PyProof.Rows PySem.Calls
set_option Elab.async false
set_option linter.unusedVariables false
set_option linter.unusedSimpArgs false
namespace Mine
section
variable (prog : Program) (w : World) (T : Tab) (g : Heap)
noncomputable def SOutK {α : Type} (g : Heap) (hid : List Addr) (L : Addr) (oa : Option Addr) (s : Shared) (k : Out → Qt α) (r : α) : Flow → Shared → Prop := fun fl s' => ∃ o, SOut g hid L oa s o fl s' ∧ (k o).val = some r
noncomputable def ExK (n : Nat) : Prop := ∀ {α : Type} (sc : Scope) (st : Stmt) (f : FS) (k : Out → Qt α) (r : α), (exT T sc n st f k).val = some r → ∀ A env hid L oa s (E : Value → Shared → Prop), Cx A n → EnvIs env sc L → FrameAt g hid L oa f s.heap →
  wpAny (model prog w) A (exec st env) (SOutK g hid L oa s k r) E s
noncomputable def ExsK (n : Nat) : Prop := ∀ {α : Type} (sc : Scope) (sts : List Stmt) (f : FS) (k : Out → Qt α) (r : α), (exsT T sc n sts f k).val = some r → ∀ A env hid L oa s (E : Value → Shared → Prop), Cx A n → EnvIs env sc L → FrameAt g hid L oa f s.heap →
  wpAny (model prog w) A (execs sts env) (SOutK g hid L oa s k r) E s
noncomputable def ExOk (n : Nat) : Prop := ∀ sc st f o, ex T sc n st f = some o → ∀ A env hid L oa s (E : Value → Shared → Prop), Cx A n → EnvIs env sc L → FrameAt g hid L oa f s.heap →
  wpAny (model prog w) A (exec st env) (SOut g hid L oa s o) E s
noncomputable def ExsOk (n : Nat) : Prop := ∀ sc st f o, exs T sc n st f = some o → ∀ A env hid L oa s (E : Value → Shared → Prop), Cx A n → EnvIs env sc L → FrameAt g hid L oa f s.heap →
  wpAny (model prog w) A (execs st env) (SOut g hid L oa s o) E s
end
section
variable {prog : Program} {w : World} {T : Tab} {g : Heap}

theorem ExK.ok {n : Nat} (i : ExK prog w T g n) : ExOk prog w T g n := fun sc st f o h A env hid L oa s E c ei F =>
  wpAny_mono (i sc st f .done o h A env hid L oa s E c ei F) (fun _ _ z => by obtain ⟨o, so, e⟩ := z; cases e; exact so) fun _ _ z => z
theorem ExsK.ok {n : Nat} (i : ExsK prog w T g n) : ExsOk prog w T g n := fun sc st f o h A env hid L oa s E c ei F =>
  wpAny_mono (i sc st f .done o h A env hid L oa s E c ei F) (fun _ _ z => by obtain ⟨o, so, e⟩ := z; cases e; exact so) fun _ _ z => z

/-- less is known of the one frame than of the other -/
structure Sub (g f : FS) : Prop where
  l : ∀ x v, g.l.lookup x = some v → f.l.lookup x = some v
  o : f.o = g.o
theorem Sub.rfl' (g : FS) : Sub g g := ⟨fun _ _ h => h, rfl⟩
theorem setL_look (x : Str) (v : AV) (z : Str) : ∀ l : List (Str × AV), (setL x v l).lookup z = if (z == x) = true then some v else l.lookup z := by
  intro l
  induction l with
  | nil =>
    show ([(x, v)] : List (Str × AV)).lookup z = _
    rw [List.lookup_cons]
    cases z == x <;> rfl
  | cons p r ih =>
    obtain ⟨y, u⟩ := p
    show (if (x == y) = true then (x, v) :: r else (y, u) :: setL x v r).lookup z = _
    by_cases q : (x == y) = true
    · have q' := eq_of_beq q
      subst q'
      rw [if_pos q, List.lookup_cons, List.lookup_cons]
      cases z == x <;> rfl
    · rw [if_neg q, List.lookup_cons, List.lookup_cons, ih]
      by_cases hz : (z == x) = true
      · have := eq_of_beq hz; subst this
        rw [if_pos hz, if_pos hz]
        have : (z == y) = false := by simpa using q
        rw [this]
      · rw [if_neg hz, if_neg hz]
theorem Sub.set (f : FS) (x : Str) (v : AV) : Sub (f.set x v) (f.put x v) := by
  refine ⟨fun z u e => ?_, rfl⟩
  have e : (setL x v f.l).lookup z = some u := e
  rw [setL_look] at e
  show ((x, v) :: f.l).lookup z = some u
  rw [List.lookup_cons]
  by_cases q : (z == x) = true
  · rw [if_pos q] at e; rw [q]; exact e
  · rw [if_neg q] at e
    have q' : (z == x) = false := by simpa using q
    rw [q']; exact e
theorem FrameAt.sub {hid : List Addr} {L : Addr} {oa : Option Addr} {G f : FS} {h : Heap} (F : FrameAt g hid L oa f h) (s : Sub G f) : FrameAt g hid L oa G h := by
  obtain ⟨m, hm, hl⟩ := F.ns
  refine ⟨⟨F.live, F.out, F.top, m, hm, ?_⟩, F.newL⟩
  rw [s.o] at hl
  cases ho : G.o with
  | none =>
    rw [ho] at hl
    cases oa with
    | some a => exact hl.elim
    | none => exact fun x v e => hl x v (s.l x v e)
  | some p =>
    obtain ⟨y, xs⟩ := p
    rw [ho] at hl
    cases oa with
    | none => exact hl.elim
    | some a =>
      obtain ⟨h0, h1, h2, vs, h3, h4, h5⟩ := hl
      exact ⟨h0, h1, h2, vs, h3, h4, fun x v e => h5 x v (s.l x v e)⟩

theorem FrameAt.liveL {hid : List Addr} {L : Addr} {oa : Option Addr} {f : FS} {h : Heap} (F : FrameAt g hid L oa f h) : Live (L :: hid) h := by
  intro b hb
  rcases List.mem_cons.mp hb with rfl | hb
  · obtain ⟨m, ⟨o, es, ep, e, _⟩, _⟩ := F.ns; exact ⟨o, e⟩
  · exact F.live b hb

theorem exs_succ {n : Nat} (i1 : ExK prog w T g n) (i2 : ExsK prog w T g n) : ExsK prog w T g (n + 1) := by
  intro α sc st f k r h A env hid L oa s E c ei F
  cases st with
  | nil => exact wpAny_execs_nil ⟨.next f, ⟨oa, F, KB.of_keeps (kp_refl _), fun a e => .inl e⟩, h⟩
  | cons st rest =>
    refine wpAny_execs_cons (wpAny_mono (i1 sc st f (fun o => (match o with | .next f' => exsT T sc n rest f' k | o => k o)) r h A env hid L oa s E c.less ei F) (fun fl s₁ h₁ => ?_) fun _ _ z => z)
    obtain ⟨o, so, h1⟩ := h₁
    cases o with
    | next f' =>
      cases fl <;> try exact so.elim
      obtain ⟨oa', F', kb, ow⟩ := so
      exact wpAny_mono (i2 sc rest f' k r h1 A env hid L oa' s₁ E c.less ei F') (fun fl s₂ h₂ => by obtain ⟨o, so, h⟩ := h₂; exact ⟨o, so.after kb ow, h⟩) fun _ _ z => z
    | brk f' => cases fl <;> first | exact so.elim | exact ⟨_, so, h1⟩
    | cont f' => cases fl <;> first | exact so.elim | exact ⟨_, so, h1⟩
    | ret v => cases fl <;> first | exact so.elim | exact ⟨_, so, h1⟩

/-- a value is stored under a name -/
theorem store_ok {sc : Scope} {x : Str} {A : Around} {env : Env} {hid : List Addr} {L : Addr} {oa : Option Addr} {f : FS} {s : Shared} {E : Value → Shared → Prop} {u : Value} {v : AV}
    (hx : sc.names.lookup x = some .local) (ei : EnvIs env sc L) (F : FrameAt g hid L oa f s.heap) (d : Den (vw s.heap (L :: (oa.toList ++ hid))) u v) :
    wpAny (model prog w) A (storeName env x u) (fun _ s' => ∃ oa', FrameAt g hid L oa' (f.set x v) s'.heap ∧ KB [L] s s' ∧ ∀ a, oa' = some a → oa = some a) E s := by
  obtain ⟨m, hm, _⟩ := id F.ns
  refine wpAny_storeName_local (m := m) ?_ (by rw [ei.loc]; exact hm) (fun h' hn hs => ?_) ?_
  · show env.scope.names.lookup x = _; rw [ei.scp]; exact hx
  · rw [ei.loc] at hn hs
    obtain ⟨oa', F', o⟩ := F.put (x := x) (u := u) (v := v) (h' := h') (fun m' hm' => by
      have e : m' = m := by
        obtain ⟨o1, es1, ep1, a1, b1, c1, d1⟩ := hm
        obtain ⟨o2, es2, ep2, a2, b2, c2, d2⟩ := hm'
        rw [a1] at a2; cases a2
        rw [b1] at b2; cases b2
        funext y; rw [← d1 y, ← d2 y]
      rw [e]; exact hn) hs d
    exact ⟨oa', F'.sub (Sub.set f x v), ⟨h', _, rfl, fun b o n e => by rw [hs.2 b (fun z => n (by rw [z]; exact List.mem_singleton_self _))]; exact e⟩, o⟩
  · rw [ei.scp, ei.kind]; rfl

theorem kb_weak {L : Addr} {l : List Addr} {s s' s'' : Shared} (a : Keeps s s') (b : KB [L] s' s'') : KB (L :: l) s s'' :=
  (KB.of_keeps (W := []) a).trans b fun x o e n => ⟨List.not_mem_nil, fun z => n (by rw [List.mem_singleton.mp z]; exact List.mem_cons_self ..)⟩

theorem swap_none {e : Expr} (h : isEv e = true) (t : Option Expr) (l : Nat) (env : Env) : swapsWith e t l env = pure false := by
  cases e <;> first | rfl | cases h
theorem folded_is {e : Expr} (h : isEv e = true) (env : Env) : ∀ x, foldedSetIterable e env x = pure x := by
  intro x
  cases e <;> first | rfl | cases h
theorem folded_id {T : Tab} {sc : Scope} {n : Nat} {e : Expr} {f : FS} {r : AV} (h : ev T sc n e f = some r) (env : Env) : ∀ x, foldedSetIterable e env x = pure x := by
  exact folded_is (ev_is h) env
/-- the names of a call -/
theorem zip_den {φ : Addr → Option Obj} : ∀ (ps : List Str) (vs : List Value) (xs : List AV) (lv : List (Str × Value)) (lx : List (Str × AV)), DenAll φ vs xs → (∀ y v, lx.lookup y = some v → ∃ u, lv.lookup y = some u ∧ Den φ u v) →
    ∀ y v, ((ps.zip xs).reverse ++ lx).lookup y = some v → ∃ u, ((ps.zip vs).reverse ++ lv).lookup y = some u ∧ Den φ u v := by
  intro ps
  induction ps with
  | nil => intro vs xs lv lx _ q y v e; exact q y v e
  | cons p ps ih =>
    intro vs xs lv lx d q y v e
    cases xs with
    | nil => cases d.inv_nil; exact q y v e
    | cons x1 xs1 =>
      obtain ⟨v1, vs1, rfl, h1, h2⟩ := d.inv_cons
      rw [List.zip_cons_cons, List.reverse_cons, List.append_assoc] at e ⊢
      refine ih vs1 xs1 ((p, v1) :: lv) ((p, x1) :: lx) h2 (fun y v e => ?_) y v e
      rw [List.lookup_cons] at e ⊢
      cases hb : y == p with
      | true => rw [hb] at e; cases e; exact ⟨v1, rfl, h1⟩
      | false => rw [hb] at e; exact q y v e

theorem call_succ {n : Nat} (hT : TopIs T g) (i : ExsK prog w T g n) : CallK prog w T g (n + 1) := by
  intro α x F xs k r hF h A hid s vs E c lv top d
  obtain ⟨hlen, h1⟩ := val_if h
  obtain ⟨wf, ⟨o, ho, hd⟩, hc⟩ := hT.fns x F hF
  have hvs : vs.length = F.ps.length := d.length.trans hlen
  have fresh : s.heap.get? s.heap.objs.size = none := size_none _
  refine wpAny_call (codeAny_call_plain (by have := c.depth; omega) (top _ _ ho) hd (hT.lim.keeps top) (hc.keeps top) wf.body (wf.bind vs hvs) wf.cell (fun p hp => wf.loc p.1 (List.of_mem_zip hp).1) (fun h₀ hn hk => ?_) wf.co wf.gen wf.kind)
  have ei : EnvIs (callEnv F.fd s.heap.objs.size F.a) F.fd.scope s.heap.objs.size := ⟨rfl, rfl, wf.gl, wf.bl, wf.kind⟩
  have kp : Keeps s { s with heap := h₀, toks := s.toks + (F.ps.zip vs).length } := ⟨h₀, _, rfl, hk⟩
  have Fr : FrameAt g hid s.heap.objs.size none ⟨(F.ps.zip xs).reverse, none⟩ h₀ := by
    refine ⟨⟨lv.keeps hk, lv.fresh fresh, fun b o e => hk b o (top b o e), _, hn, fun y v e => ?_⟩, ?_⟩
    · have d' : DenAll (vw h₀ (s.heap.objs.size :: hid)) vs xs := by
        refine d.mono fun b o q => ?_
        have q' := vw_some q
        rw [vw_get (by intro hb; rcases List.mem_cons.mp hb with z | z; (rw [z, fresh] at q'; cases q'.1); exact q'.2 z)]
        exact hk b o q'.1
      have := zip_den F.ps vs xs [] [] d' (fun y v e => by cases e) y v (by rw [List.append_nil]; exact e)
      rw [List.append_nil] at this
      exact this
    · cases e : g.get? s.heap.objs.size with
      | none => rfl
      | some o => rw [top _ _ e] at fresh; cases fresh
  have fin : ∀ {s' : Shared}, KB [s.heap.objs.size] { s with heap := h₀, toks := s.toks + (F.ps.zip vs).length } s' → Keeps s s' := fun kb => (KB.trans (W'' := [s.heap.objs.size]) (KB.of_keeps (W := []) kp) kb fun x o e n => ⟨List.not_mem_nil, n⟩).keeps fun x hx => by rw [List.mem_singleton.mp hx]; exact fresh
  refine wpAny_mono (i F.fd.scope F.body _ (fun o => (match o with | .ret v => k v | .next _ => k .none | _ => .fail)) r h1 _ _ hid s.heap.objs.size none _ _ (c.deeper _) ei Fr) (fun fl s' h' => ?_) fun _ _ z => z
  obtain ⟨o, so, h2⟩ := h'
  cases o with
  | ret v =>
    cases fl <;> try exact so.elim
    exact ⟨fin so.2, v, so.1.mono (vw_mono (fun _ _ e => e) fun b hb => List.mem_cons_of_mem _ hb), h2⟩
  | next f' =>
    cases fl <;> try exact so.elim
    obtain ⟨oa', _, kb, _⟩ := so
    exact ⟨fin kb, .none, .none, h2⟩
  | brk f' => cases h2
  | cont f' => cases h2
end
end Mine
end
/- M9 -/
section
open PySem PySem.W PyProof.Rows PySem.Calls
set_option Elab.async false
set_option linter.unusedVariables false
set_option linter.unusedSimpArgs false
namespace Mine
section
variable {prog : Program} {w : World} {T : Tab} {g : Heap}

/-- only what is hidden has changed -/
theorem FrameAt.exBut {hid : List Addr} {L I : Addr} {oa : Option Addr} {f : FS} {h h' : Heap} (F : FrameAt g hid L oa f h) (hI : I ∈ hid) (lvI : ∃ o, h'.get? I = some o) (hg : g.get? I = none)
    (k0 : ∀ b o, b ≠ I → h.get? b = some o → h'.get? b = some o) : FrameAt g hid L oa f h' := by
  obtain ⟨m, hm, hl⟩ := F.ns
  have k : ∀ b o, b ∉ hid → h.get? b = some o → h'.get? b = some o := fun b o n e => k0 b o (fun z => n (z ▸ hI)) e
  have lv : Live hid h' := fun b hb => by
    by_cases z : b = I
    · rw [z]; exact lvI
    · obtain ⟨o, e⟩ := F.live b hb
      exact ⟨o, k0 b o z e⟩
  have mv : ∀ (hid' : List Addr), (∀ b ∈ hid, b ∈ hid') → ∀ a o, vw h hid' a = some o → vw h' hid' a = some o := by
    intro hid' hs a o e
    have q := vw_some e
    rw [vw_get q.2]
    exact k a o (fun z => q.2 (hs a z)) q.1
  refine ⟨⟨lv, F.out, fun b o e => k0 b o (fun z => by rw [z, hg] at e; cases e) (F.top b o e), m, hm.at' (fun o e => k L o F.out e), ?_⟩, F.newL⟩
  cases ho : f.o with
  | none =>
    cases oa with
    | some a => rw [ho] at hl; exact hl.elim
    | none =>
      rw [ho] at hl
      intro y v e
      obtain ⟨u, hu, d⟩ := hl y v e
      exact ⟨u, hu, d.mono (mv _ fun b hb => List.mem_cons_of_mem _ hb)⟩
  | some p =>
    obtain ⟨y, xs⟩ := p
    cases oa with
    | none => rw [ho] at hl; exact hl.elim
    | some a =>
      rw [ho] at hl
      obtain ⟨h0, h1, h2, vs, ⟨n, h3⟩, h4, h5⟩ := hl
      have mv' := mv (a :: L :: hid) fun b hb => List.mem_cons_of_mem _ (List.mem_cons_of_mem _ hb)
      refine ⟨h0, h1, h2, vs, ⟨n, k a _ (fun z => h1 (List.mem_cons_of_mem _ z)) h3⟩, h4.mono mv', fun z v e => ?_⟩
      obtain ⟨u, hu, d⟩ := h5 z v e
      exact ⟨u, hu, d.mono mv'⟩

/-- one more address is hidden: a new one -/
theorem FrameAt.hide {hid : List Addr} {L I : Addr} {oa : Option Addr} {f : FS} {h h' : Heap} (F : FrameAt g hid L oa f h) (hI : h.get? I = none) (hI' : ∃ o, h'.get? I = some o)
    (k : ∀ b o, h.get? b = some o → h'.get? b = some o) : FrameAt g (I :: hid) L oa f h' := by
  obtain ⟨m, hm, hl⟩ := F.ns
  have mv : ∀ (h1 h2 : List Addr), (∀ b ∈ h2, b ∈ h1 ∨ b = I) → ∀ a o, vw h h1 a = some o → vw h' h2 a = some o := by
    intro h1 h2 hs a o e
    have q := vw_some e
    rw [vw_get (fun z => by rcases hs a z with z | z; exact q.2 z; rw [z, hI] at q; cases q.1)]
    exact k a o q.1
  refine ⟨⟨fun b hb => ?_, fun hb => ?_, fun b o e => k b o (F.top b o e), m, hm.keeps k, ?_⟩, F.newL⟩
  · rcases List.mem_cons.mp hb with rfl | hb
    · exact hI'
    · exact F.live.keeps k b hb
  · rcases List.mem_cons.mp hb with rfl | hb
    · obtain ⟨o, _, _, e, _⟩ := hm; rw [hI] at e; cases e
    · exact F.out hb
  cases ho : f.o with
  | none =>
    cases oa with
    | some a => rw [ho] at hl; exact hl.elim
    | none =>
      rw [ho] at hl
      intro y v e
      obtain ⟨u, hu, d⟩ := hl y v e
      exact ⟨u, hu, d.mono (mv _ _ fun b hb => by simp at hb ⊢; rcases hb with h | h | h <;> simp [h])⟩
  | some p =>
    obtain ⟨y, xs⟩ := p
    cases oa with
    | none => rw [ho] at hl; exact hl.elim
    | some a =>
      rw [ho] at hl
      obtain ⟨h0, h1, h2, vs, ⟨n, h3⟩, h4, h5⟩ := hl
      have mv' := mv (a :: L :: hid) (a :: L :: I :: hid) fun b hb => by simp at hb ⊢; rcases hb with h | h | h | h <;> simp [h]
      refine ⟨h0, fun hb => ?_, h2, vs, ⟨n, k a _ h3⟩, h4.mono mv', fun z v e => ?_⟩
      · simp at hb h1
        rcases hb with h | h | h
        · exact h1.1 h
        · rw [h, hI] at h3; cases h3
        · exact h1.2 h
      · obtain ⟨u, hu, d⟩ := h5 z v e
        exact ⟨u, hu, d.mono mv'⟩
theorem FrameAt.unhide {hid : List Addr} {L I : Addr} {oa : Option Addr} {f : FS} {h : Heap} (F : FrameAt g (I :: hid) L oa f h) : FrameAt g hid L oa f h := by
  obtain ⟨m, hm, hl⟩ := F.ns
  have mv : ∀ (h1 h2 : List Addr), (∀ b ∈ h2, b ∈ h1) → ∀ a o, vw h h1 a = some o → vw h h2 a = some o := fun h1 h2 hs => vw_mono (fun _ _ e => e) hs
  refine ⟨⟨fun b hb => F.live b (List.mem_cons_of_mem _ hb), fun hb => F.out (List.mem_cons_of_mem _ hb), F.top, m, hm, ?_⟩, F.newL⟩
  cases ho : f.o with
  | none =>
    cases oa with
    | some a => rw [ho] at hl; exact hl.elim
    | none =>
      rw [ho] at hl
      intro y v e
      obtain ⟨u, hu, d⟩ := hl y v e
      exact ⟨u, hu, d.mono (mv _ _ fun b hb => by simp at hb ⊢; rcases hb with h | h <;> simp [h])⟩
  | some p =>
    obtain ⟨y, xs⟩ := p
    cases oa with
    | none => rw [ho] at hl; exact hl.elim
    | some a =>
      rw [ho] at hl
      obtain ⟨h0, h1, h2, vs, h3, h4, h5⟩ := hl
      have mv' := mv (a :: L :: I :: hid) (a :: L :: hid) fun b hb => by simp at hb ⊢; rcases hb with h | h | h <;> simp [h]
      refine ⟨h0, fun hb => h1 (by simp at hb ⊢; rcases hb with h | h <;> simp [h]), h2, vs, h3, h4.mono mv', fun z v e => ?_⟩
      obtain ⟨u, hu, d⟩ := h5 z v e
      exact ⟨u, hu, d.mono mv'⟩

theorem FrameAt.drop {hid : List Addr} {L I : Addr} {oa : Option Addr} {f : FS} {h h' : Heap} (F : FrameAt g (I :: hid) L oa f h) (hg : g.get? I = none) (hI : I ∉ hid)
    (k : ∀ b o, b ≠ I → h.get? b = some o → h'.get? b = some o) : FrameAt g hid L oa f h' := by
  obtain ⟨m, hm, hl⟩ := F.ns
  have mv : ∀ (h1 h2 : List Addr), I ∈ h1 → (∀ b ∈ h2, b ∈ h1) → ∀ a o, vw h h1 a = some o → vw h' h2 a = some o := fun h1 h2 hi hs a o e => by
    have q := vw_some e
    rw [vw_get fun z => q.2 (hs a z)]
    exact k a o (fun z => q.2 (z ▸ hi)) q.1
  refine ⟨⟨fun b hb => ?_, fun hb => F.out (List.mem_cons_of_mem _ hb), fun b o e => k b o (fun z => by rw [z, hg] at e; cases e) (F.top b o e), m, hm.at' fun o e => k L o (fun z => F.out (z ▸ List.mem_cons_self ..)) e, ?_⟩, F.newL⟩
  · obtain ⟨o, e⟩ := F.live b (List.mem_cons_of_mem _ hb)
    exact ⟨o, k b o (fun z => hI (z ▸ hb)) e⟩
  cases ho : f.o with
  | none =>
    cases oa with
    | some a => rw [ho] at hl; exact hl.elim
    | none =>
      rw [ho] at hl
      intro y v e
      obtain ⟨u, hu, d⟩ := hl y v e
      exact ⟨u, hu, d.mono (mv _ _ (by simp) fun b hb => by simp at hb ⊢; rcases hb with h | h <;> simp [h])⟩
  | some p =>
    obtain ⟨y, xs⟩ := p
    cases oa with
    | none => rw [ho] at hl; exact hl.elim
    | some a =>
      rw [ho] at hl
      obtain ⟨h0, h1, h2, vs, ⟨n, h3⟩, h4, h5⟩ := hl
      have mv' := mv (a :: L :: I :: hid) (a :: L :: hid) (by simp) fun b hb => by simp at hb ⊢; rcases hb with h | h | h <;> simp [h]
      refine ⟨h0, fun hb => h1 (by simp at hb ⊢; rcases hb with h | h <;> simp [h]), h2, vs, ⟨n, k a _ (fun z => h1 (by rw [z]; simp)) h3⟩, h4.mono mv', fun z v e => ?_⟩
      obtain ⟨u, hu, d⟩ := h5 z v e
      exact ⟨u, hu, d.mono mv'⟩

/-- what a loop leaves -/
noncomputable def LOut (g : Heap) (hid : List Addr) (I L : Addr) (oa : Option Addr) (s : Shared) : Out → Flow → Shared → Prop
  | .next f, .next, s' => ∃ oa', FrameAt g hid L oa' f s'.heap ∧ KB (I :: L :: oa.toList) s s' ∧ OwnOf oa oa' s
  | .ret v, .ret u, s' => Den (vw s'.heap (L :: I :: hid)) u v ∧ KB (I :: L :: oa.toList) s s'
  | _, _, _ => False

theorem LOut.out {hid : List Addr} {I L : Addr} {oa : Option Addr} {s₀ s : Shared} (k : Keeps s₀ s) (hI : s₀.heap.get? I = none) {o : Out} {fl : Flow} {s' : Shared} (x : LOut g hid I L oa s o fl s') : SOut g hid L oa s₀ o fl s' := by
  have kb : KB (I :: L :: oa.toList) s s' → KB (L :: oa.toList) s₀ s' := fun kb => (KB.of_keeps (W := []) k).trans kb fun y ob e n => ⟨List.not_mem_nil, fun z => by
    rcases List.mem_cons.mp z with rfl | z
    · rw [hI] at e; cases e
    · exact n z⟩
  cases o <;> cases fl <;> first | exact x.elim | skip
  · obtain ⟨oa', F, kk, ow⟩ := x
    refine ⟨oa', F, kb kk, fun a e => ?_⟩
    rcases ow a e with q | q
    · exact .inl q
    · refine .inr ?_
      cases h : s₀.heap.get? a with
      | none => rfl
      | some ob => rw [kp_heap k a ob h] at q; cases q
  · exact ⟨x.1.mono (vw_mono (fun _ _ e => e) fun b hb => by simp at hb ⊢; rcases hb with h | h <;> simp [h]), kb x.2⟩

/-- where a turn leads -/
noncomputable def NextJ (J : Nat → FS → Prop) (fin : Out → Prop) (i : Nat) : Out → Prop
  | .next f => J (i + 1) f
  | .cont f => J (i + 1) f
  | .brk f => fin (.next f)
  | .ret v => fin (.ret v)
/-- a turn of a loop -/
noncomputable def StepJ (prog : Program) (w : World) (g : Heap) (A : Around) (env : Env) (L : Addr) (x : Str) (body : List Stmt) (xs : List AV) (J : Nat → FS → Prop) (fin : Out → Prop) : Prop :=
  ∀ i y f' hid oa s (E : Value → Shared → Prop), J i f' → xs[i]? = some y → FrameAt g hid L oa (f'.set x y) s.heap → wpAny (model prog w) A (execs body env) (fun fl s' => ∃ o, SOut g hid L oa s o fl s' ∧ NextJ J fin i o) E s
theorem loop_ok {N : Nat} {sc : Scope} {x : Str} {px : Pos} {body : List Stmt} {env : Env} {A : Around} {hid : List Addr} {L I : Addr} {oa : Option Addr} {s : Shared}
    {fp : List Addr} {n : Nat} {P : Nat → Value → Prop} {St : Nat → Heap → Prop} (W : Walks prog w A I fp [I] n P St) {xs : List AV} {f : FS} {J : Nat → FS → Prop} {fin : Out → Prop} {R : Result → Shared → Prop}
    (hx : sc.names.lookup x = some .local) (c : Cx A N) (ei : EnvIs env sc L) (hn : xs.length = n) (hgI : g.get? I = none)
    (hP : ∀ i v, i < n → P i v → ∃ y, xs[i]? = some y ∧ Den (vw s.heap (L :: (oa.toList ++ I :: hid))) v y) (hst : St 0 s.heap) (hSt : ∀ i h, St i h → ∃ o, h.get? I = some o)
    (hfp : ∀ b ∈ fp, b ≠ L ∧ b ∉ oa.toList ∧ ∃ o, s.heap.get? b = some o) (hIfp : I ∈ fp) (hIh : I ∉ hid) (F : FrameAt g (I :: hid) L oa f s.heap) (step : StepJ prog w g A env L x body xs J fin) (h : J 0 f) (last : ∀ f', J xs.length f' → fin (.next f'))
    (hR : ∀ fl s' o, LOut g hid I L oa s o fl s' → fin o → R (.ok fl) s') : codeAny (model prog w) A (.forLoop (.Name x px) (.ref I) body [] env) R s := by
  have oI : ∀ a, oa = some a → a ≠ I := fun a e q => (hfp I hIfp).2.1 (by rw [e, q]; simp)
  refine codeAny_forLoop_any (fun kk s' => ∃ i f' oa', kk = n - i ∧ i ≤ n ∧ St i s'.heap ∧ J i f' ∧ FrameAt g (I :: hid) L oa' f' s'.heap ∧
    KB (I :: L :: oa.toList) s s' ∧ OwnOf oa oa' s) (fun kk s' hJ => ?_) n ⟨0, f, oa, rfl, Nat.zero_le _, hst, h, F, KB.of_keeps (kp_refl _), fun a e => .inl e⟩
  obtain ⟨i, f', oa', rfl, hi, st, hl, F', kb, ow⟩ := hJ
  by_cases q : i < n
  · refine W.item i s' _ _ q st fun v h' tk hv st' kp => ?_
    obtain ⟨y, hy, dy⟩ := hP i v q hv
    have lvI : ∃ o, h'.get? I = some o := hSt _ _ st'
    have k1 : KB [I] s' { s' with heap := h', toks := tk } := ⟨h', tk, rfl, kp⟩
    have F1 : FrameAt g (I :: hid) L oa' f' h' := by
      exact F'.exBut (List.mem_cons_self ..) lvI hgI fun b o nb e => kp b o (by simpa using nb) e
    have dy1 : Den (vw h' (L :: (oa'.toList ++ I :: hid))) v y := by
      refine dy.mono fun b ob e => ?_
      have e' := vw_some e
      have n1 : b ≠ L := fun z => e'.2 (by rw [z]; exact List.mem_cons_self ..)
      have n2 : b ∉ oa.toList := fun z => e'.2 (List.mem_cons_of_mem _ (List.mem_append_left _ z))
      have n3 : b ∉ I :: hid := fun z => e'.2 (List.mem_cons_of_mem _ (List.mem_append_right _ z))
      have n4 : b ≠ I := fun z => n3 (by rw [z]; exact List.mem_cons_self ..)
      have n5 : b ∉ oa'.toList := fun z => by
        have z : oa' = some b := by cases oa' <;> simp at z; rw [z]
        rcases ow b z with q | q
        · exact n2 (by rw [q]; simp)
        · rw [q] at e'; cases e'.1
      rw [vw_get (by simp only [List.mem_cons, List.mem_append, not_or] at n3 ⊢; exact ⟨n1, n5, n3⟩)]
      refine kp b ob (by simpa using n4) (kb.heap b ob ?_ e'.1)
      simp only [List.mem_cons, not_or]; exact ⟨n4, n1, n2⟩
    refine wpAny_of_eq (a := ()) rfl ?_
    refine wpAny_assign_Name (wpAny_mono (store_ok hx ei F1 dy1) (fun _ s₂ h₂ => ?_) fun _ _ z => z)
    obtain ⟨oa2, F2, k2, o2⟩ := h₂
    have ow2 : OwnOf oa oa2 s := fun a e => ow a (o2 a e)
    have ne2 : ∀ b ∈ fp, b ∉ L :: oa2.toList := fun b hb z => by
      obtain ⟨b1, b2, ⟨ob, b3⟩⟩ := hfp b hb
      rcases List.mem_cons.mp z with z | z
      · exact b1 z
      · have z : oa2 = some b := by cases oa2 <;> simp at z; rw [z]
        rcases ow2 b z with q | q
        · exact b2 (by rw [q]; simp)
        · rw [q] at b3; cases b3
    have kb2 : KB (I :: L :: oa.toList) s s₂ := by
      refine KB.trans (kb.trans k1 fun b ob e n => ⟨n, fun z => n (by rw [List.mem_singleton.mp z]; exact List.mem_cons_self ..)⟩ : KB (I :: L :: oa.toList) s _) k2 fun b ob e n => ⟨n, fun z => n (by rw [List.mem_singleton.mp z]; simp)⟩
    have lvI2 : ∃ ob, s₂.heap.get? I = some ob := F2.live I (List.mem_cons_self ..)
    have lvL2 : ∃ ob, s₂.heap.get? L = some ob := F2.liveL L (List.mem_cons_self ..)
    -- what the body leaves
    have next : ∀ f3 (fl : Flow) s₃, (∃ oa3, FrameAt g (I :: hid) L oa3 f3 s₃.heap ∧ KB (L :: oa2.toList) s₂ s₃ ∧ OwnOf oa2 oa3 s₂) →
        ∃ oa3, FrameAt g (I :: hid) L oa3 f3 s₃.heap ∧ KB (I :: L :: oa.toList) s s₃ ∧ OwnOf oa oa3 s ∧ St (i + 1) s₃.heap := by
      intro f3 fl s₃ ⟨oa3, F3, k3, o3⟩
      refine ⟨oa3, F3, ?_, ?_, ?_⟩
      · refine kb2.trans k3 fun b ob e n => ⟨n, fun z => ?_⟩
        rcases List.mem_cons.mp z with z | z
        · exact n (by rw [z]; simp)
        · have z : oa2 = some b := by cases oa2 <;> simp at z; rw [z]
          rcases ow2 b z with q | q
          · exact n (by rw [q]; simp)
          · rw [q] at e; cases e
      · intro a e
        rcases o3 a e with q | q
        · exact ow2 a q
        · cases hh : s.heap.get? a with
          | none => exact .inr rfl
          | some ob =>
            by_cases z : a ∈ I :: L :: oa.toList
            · rcases List.mem_cons.mp z with z | z
              · obtain ⟨ob, eo⟩ := lvI2; rw [z, eo] at q; cases q
              · rcases List.mem_cons.mp z with z | z
                · obtain ⟨ob, eo⟩ := lvL2; rw [z, eo] at q; cases q
                · exact .inl (by cases oa <;> simp at z; rw [z])
            · rw [kb2.heap a ob z hh] at q; cases q
      · refine W.frame (i + 1) h' s₃.heap st' fun b hb ob e => ?_
        have nb := ne2 b hb
        refine k3.heap b ob nb (k2.heap b ob (fun z => nb (by rw [List.mem_singleton.mp z]; exact List.mem_cons_self ..)) e)
    refine wpAny_mono (step i y f' (I :: hid) oa2 s₂ (notedBy (model prog w) A env fun e s' => R (.error e) s') hl hy F2) (fun fl s₃ h₃ => ?_) fun _ _ z => z
    obtain ⟨o, so, h4⟩ := h₃
    cases o with
    | next f3 =>
      cases fl <;> try exact so.elim
      obtain ⟨oa3, F3, k3, o3, st3⟩ := next f3 .next s₃ so
      exact ⟨n - (i + 1), by omega, i + 1, f3, oa3, rfl, q, st3, h4, F3, k3, o3⟩
    | cont f3 =>
      cases fl <;> try exact so.elim
      obtain ⟨oa3, F3, k3, o3, st3⟩ := next f3 .next s₃ so
      exact ⟨n - (i + 1), by omega, i + 1, f3, oa3, rfl, q, st3, h4, F3, k3, o3⟩
    | brk f3 =>
      cases fl <;> try exact so.elim
      obtain ⟨oa3, F3, k3, o3, st3⟩ := next f3 .next s₃ so
      exact hR .next s₃ (.next f3) ⟨oa3, F3.unhide, k3, o3⟩ h4
    | ret v3 =>
      cases fl <;> try exact so.elim
      refine hR _ s₃ (.ret v3) ⟨so.1, kb2.trans so.2 fun b ob e n => ⟨n, fun z => ?_⟩⟩ h4
      rcases List.mem_cons.mp z with z | z
      · exact n (by rw [z]; simp)
      · have z : oa2 = some b := by cases oa2 <;> simp at z; rw [z]
        rcases ow2 b z with q | q
        · exact n (by rw [q]; simp)
        · rw [q] at e; cases e
  · have e : i = n := by omega
    subst e
    have hl : fin (.next f') := last f' (by rw [hn]; exact hl)
    refine W.done s' _ _ st fun h' tk kp => ?_
    refine wpAny_execs_nil (hR .next _ (.next f') ⟨oa', F'.drop hgI hIh fun b o nb e => kp b o (by simpa using nb) e, ?_, ow⟩ hl)
    · exact kb.trans (⟨h', tk, rfl, kp⟩ : KB [I] s' { s' with heap := h', toks := tk }) fun b ob e n => ⟨n, fun z => n (by rw [List.mem_singleton.mp z]; exact List.mem_cons_self ..)⟩
end
end Mine
end
/- M10 -/
section
open PySem PySem.W PyProof.Rows PySem.Calls
set_option Elab.async false
set_option linter.unusedVariables false
set_option linter.unusedSimpArgs false
namespace Mine
section
variable {prog : Program} {w : World} {T : Tab} {g : Heap}

theorem wloop_ok {α : Type} {N : Nat} (its : ∀ m, m ≤ N → TrK prog w T g m) (iss : ∀ m, m ≤ N → ExsK prog w T g m) {sc : Scope} {t : Expr} {body : List Stmt} {env : Env} {A : Around} {hid : List Addr} {L : Addr} {oa : Option Addr} {s : Shared}
    {f : FS} {k : Out → Qt α} {r : α} {R : Result → Shared → Prop} (c : Cx A N) (ei : EnvIs env sc L) (F : FrameAt g hid L oa f s.heap) (h : (wloopT T sc N t body f k).val = some r)
    (hR : ∀ fl s', SOutK g hid L oa s k r fl s' → R (.ok fl) s') : codeAny (model prog w) A (.whileLoop t body [] env) R s := by
  refine codeAny_whileLoop (fun kk s' => ∃ f' oa', kk ≤ N ∧ (wloopT T sc kk t body f' k).val = some r ∧ FrameAt g hid L oa' f' s'.heap ∧ KB (L :: oa.toList) s s' ∧ OwnOf oa oa' s) (fun kk s' hJ => ?_) N
    ⟨f, oa, Nat.le_refl _, h, F, KB.of_keeps (kp_refl _), fun a e => .inl e⟩
  obtain ⟨f', oa', hk, hl, F', kb, ow⟩ := hJ
  cases kk with
  | zero => cases hl
  | succ kk =>
  refine wpAny_mono (its kk (by lia) sc t f' (fun c => cond c (exsT T sc kk body f' fun o => (match o with
      | .next f' => wloopT T sc kk t body f' k
      | .cont f' => wloopT T sc kk t body f' k
      | .brk f' => k (.next f')
      | .ret v => k (.ret v))) (k (.next f'))) r hl A env hid L oa' s' _ (c.mono (by lia)) ei F'.toFrameW) (fun b s₁ h₁ => ?_) fun _ _ z => z
  obtain ⟨k1, hl⟩ := h₁
  cases b with
  | false =>
    refine wpAny_execs_nil (hR .next s₁ ⟨.next f', ?_, hl⟩)
    exact SOut.after kb ow (out := .next f') (fl := .next) (g := g) (hid := hid) ⟨oa', F'.ex k1, KB.of_keeps k1, fun a e => .inl e⟩
  | true =>
    have kb1 : KB (L :: oa.toList) s s₁ := kb_own kb ow (KB.of_keeps k1)
    have next : ∀ f3 s₃, (∃ oa3, FrameAt g hid L oa3 f3 s₃.heap ∧ KB (L :: oa'.toList) s₁ s₃ ∧ OwnOf oa' oa3 s₁) → ∃ oa3, FrameAt g hid L oa3 f3 s₃.heap ∧ KB (L :: oa.toList) s s₃ ∧ OwnOf oa oa3 s :=
      fun f3 s₃ hh => SOut.after kb1 ow (out := .next f3) (fl := .next) hh
    simp only [if_true]
    refine wpAny_mono (iss kk (by lia) sc body f' _ r hl A env hid L oa' s₁ (notedBy (model prog w) A env fun e s' => R (.error e) s') (c.mono (by lia)) ei (F'.ex k1)) (fun fl s₃ h₃ => ?_) fun _ _ z => z
    obtain ⟨o, so, h4⟩ := h₃
    cases o with
    | next f3 =>
      cases fl <;> try exact so.elim
      obtain ⟨oa3, F3, k3, o3⟩ := next f3 s₃ so
      exact ⟨kk, by lia, f3, oa3, by lia, h4, F3, k3, o3⟩
    | cont f3 =>
      cases fl <;> try exact so.elim
      obtain ⟨oa3, F3, k3, o3⟩ := next f3 s₃ so
      exact ⟨kk, by lia, f3, oa3, by lia, h4, F3, k3, o3⟩
    | brk f3 =>
      cases fl <;> try exact so.elim
      exact hR .next s₃ ⟨.next f3, next f3 s₃ so, h4⟩
    | ret v3 =>
      cases fl <;> try exact so.elim
      exact hR _ s₃ ⟨.ret v3, SOut.after kb1 ow (out := .ret v3) so, h4⟩

theorem small_ok {a b c : Int} (ha : 0 ≤ a) (ha' : a ≤ 1048576) (hb : 0 ≤ b) (hb' : b ≤ 1048576) (hc : 0 < c) (hc' : c ≤ 1048576) : Builtin.Range.small a b c = true := by
  have e : 0 ≤ Builtin.Range.rangeSize a b c ∧ Builtin.Range.rangeSize a b c ≤ 1048577 := by
    unfold Builtin.Range.rangeSize
    rw [if_pos hc]
    split
    · have h1 := Int.ediv_le_self c (show 0 ≤ b - a - 1 by lia)
      have h2 := Int.ediv_nonneg (show 0 ≤ b - a - 1 by lia) (show 0 ≤ c by lia)
      lia
    · lia
  unfold Builtin.Range.small
  simp only [Builtin.Range.rangeFitsLong, Bool.and_eq_true, Bool.or_eq_true, decide_eq_true_eq, beq_iff_eq, hc, if_true]
  refine ⟨⟨⟨⟨?_, ?_⟩, ?_⟩, ?_⟩, ?_⟩ <;> lia
theorem size_nonneg {a b c : Int} (hc : 0 < c) : 0 ≤ Builtin.Range.rangeSize a b c := by
  unfold Builtin.Range.rangeSize
  rw [if_pos hc]
  split
  · have h2 := Int.ediv_nonneg (show 0 ≤ b - a - 1 by lia) (show 0 ≤ c by lia)
    lia
  · lia

theorem for_range {n : Nat} {sc : Scope} {x : Str} {px : Pos} {body : List Stmt} {env : Env} {A : Around} {hid : List Addr} {L : Addr} {oa : Option Addr} {s₀ s : Shared} {r : Addr}
    {f : FS} {J : Nat → FS → Prop} {fin : Out → Prop} {R : Result → Shared → Prop} {E : Value → Shared → Prop} {a b c : Int} {t u v : Tok} (hx : sc.names.lookup x = some .local) (cx : Cx A n) (ei : EnvIs env sc L) (k : Keeps s₀ s) (F₀ : FrameAt g hid L oa f s₀.heap)
    (hr : IsRange s.heap r a b c t u v) (ha : 0 ≤ a) (ha' : a ≤ 1048576) (hb : 0 ≤ b) (hb' : b ≤ 1048576) (hc : 0 < c) (hc' : c ≤ 1048576)
    (step : StepJ prog w g A env L x body (rangeL a b c) J fin) (h : J 0 f) (last : ∀ f', J (rangeL a b c).length f' → fin (.next f')) (hR : ∀ fl s' o, SOut g hid L oa s₀ o fl s' → fin o → R (.ok fl) s') :
    wpAny (model prog w) A (pyIter (.ref r)) (fun it s₂ => codeAny (model prog w) A (.forLoop (.Name x px) it body [] env) R s₂) E s := by
  refine wpAny_pyIter_range hr (small_ok ha ha' hb hb' hc hc') ?_
  have F := F₀.ex k
  have fresh : s.heap.get? s.heap.objs.size = none := size_none _
  have fresh0 : s₀.heap.get? s.heap.objs.size = none := by
    cases e : s₀.heap.get? s.heap.objs.size with
    | none => rfl
    | some o => rw [kp_heap k _ _ e] at fresh; cases fresh
  have kp := kp_push (s := s) { cls := .type "range_iterator", data := .fields #[rawInt a, rawInt (Builtin.Range.rangeSize a b c), rawInt c] }
  have gI : g.get? s.heap.objs.size = none := by
    cases e : g.get? s.heap.objs.size with
    | none => rfl
    | some o => rw [F.top _ _ e] at fresh; cases fresh
  have sz : ((Builtin.Range.rangeSize a b c).toNat : Int) = Builtin.Range.rangeSize a b c := Int.toNat_of_nonneg (size_nonneg hc)
  have new : (s.heap.push { cls := .type "range_iterator", data := .fields #[rawInt a, rawInt (Builtin.Range.rangeSize a b c), rawInt c] }).get? s.heap.objs.size = some { cls := .type "range_iterator", data := .fields #[rawInt a, rawInt (Builtin.Range.rangeSize a b c), rawInt c] } := Heap.get?_push_size _ rfl
  have F' := F.hide (I := s.heap.objs.size) fresh ⟨_, new⟩ (kp_heap kp)
  refine loop_ok (fp := [s.heap.objs.size]) (n := (Builtin.Range.rangeSize a b c).toNat) (hid := hid) (oa := oa) (Walks.range cx.hand s.heap.objs.size a c (Builtin.Range.rangeSize a b c).toNat) hx cx ei (by simp [rangeL]) gI (fun i v hi hv => ?_) ?_ (fun i h hh => ⟨_, hh⟩) (fun b hb => ?_) (List.mem_singleton_self _) (F.live.fresh fresh) F' step h last fun fl s' o hl hk => hR fl s' o (hl.out (kp_trans k kp) fresh0) hk
  · obtain ⟨t, rfl⟩ := hv
    exact ⟨.int (a + i * c), by simp [rangeL, hi], .int _ _⟩
  · show IsRangeIter _ _ _ _ _
    rw [sz]
    simpa using new
  · rw [List.mem_singleton.mp hb]
    refine ⟨fun z => ?_, fun z => ?_, _, new⟩
    · obtain ⟨o, e⟩ := F.liveL L (List.mem_cons_self ..)
      rw [← z, fresh] at e; cases e
    · have z : oa = some s.heap.objs.size := by cases oa <;> simp at z; rw [z]
      obtain ⟨m, hm, hl⟩ := F.ns
      subst z
      cases ho : f.o with
      | none => rw [ho] at hl; exact hl.elim
      | some p => rw [ho] at hl; obtain ⟨_, _, _, vs, ⟨n, e⟩, _⟩ := hl; rw [fresh] at e; cases e
end
end Mine
end
/- M11 -/
section
open PySem PySem.W PyProof.Rows PySem.Calls
set_option Elab.async false
set_option linter.unusedVariables false
set_option linter.unusedSimpArgs false
namespace Mine
section
variable {prog : Program} {w : World} {T : Tab} {g : Heap}

theorem FrameAt.own_live {hid : List Addr} {L a : Addr} {f : FS} {h : Heap} (F : FrameAt g hid L (some a) f h) : ∃ o, h.get? a = some o := by
  obtain ⟨m, hm, hl⟩ := F.ns
  cases ho : f.o with
  | none => rw [ho] at hl; exact hl.elim
  | some p => rw [ho] at hl; obtain ⟨_, _, _, vs, ⟨n, e⟩, _⟩ := hl; exact ⟨_, e⟩

theorem not_own {hid : List Addr} {L a : Addr} {oa : Option Addr} {f : FS} {h : Heap} (F : FrameAt g hid L oa f h) (fresh : h.get? a = none) : a ∉ oa.toList := fun z => by
  have z : oa = some a := by cases oa <;> simp at z; rw [z]
  subst z
  obtain ⟨o, e⟩ := F.own_live
  rw [fresh] at e; cases e
theorem not_L {hid : List Addr} {L a : Addr} {oa : Option Addr} {f : FS} {h : Heap} (F : FrameAt g hid L oa f h) (fresh : h.get? a = none) : a ≠ L := fun z => by
  obtain ⟨o, e⟩ := F.liveL L (List.mem_cons_self ..)
  rw [← z, fresh] at e; cases e
theorem not_g {hid : List Addr} {L a : Addr} {oa : Option Addr} {f : FS} {h : Heap} (F : FrameAt g hid L oa f h) (fresh : h.get? a = none) : g.get? a = none := by
  cases e : g.get? a with
  | none => rfl
  | some o => rw [F.top _ _ e] at fresh; cases fresh
theorem not_old {s₀ s : Shared} {a : Addr} (k : Keeps s₀ s) (fresh : s.heap.get? a = none) : s₀.heap.get? a = none := by
  cases e : s₀.heap.get? a with
  | none => rfl
  | some o => rw [kp_heap k _ _ e] at fresh; cases fresh

theorem for_list {n : Nat} {sc : Scope} {x : Str} {px : Pos} {body : List Stmt} {env : Env} {A : Around} {hid : List Addr} {L : Addr} {oa : Option Addr} {s₀ s : Shared} {u : Value}
    {f : FS} {J : Nat → FS → Prop} {fin : Out → Prop} {R : Result → Shared → Prop} {E : Value → Shared → Prop} {xs : List AV} (hx : sc.names.lookup x = some .local) (cx : Cx A n) (ei : EnvIs env sc L) (k : Keeps s₀ s) (F₀ : FrameAt g hid L oa f s₀.heap)
    (d : Den (vw s.heap (L :: (oa.toList ++ hid))) u (.list xs)) (step : StepJ prog w g A env L x body xs J fin) (h : J 0 f) (last : ∀ f', J xs.length f' → fin (.next f')) (hR : ∀ fl s' o, SOut g hid L oa s₀ o fl s' → fin o → R (.ok fl) s') :
    wpAny (model prog w) A (pyIter u) (fun it s₂ => codeAny (model prog w) A (.forLoop (.Name x px) it body [] env) R s₂) E s := by
  obtain ⟨ax, vs, rfl, hax, lx, dx⟩ := d.isList
  refine wpAny_pyIter_list lx ?_
  have F := F₀.ex k
  have fresh : s.heap.get? s.heap.objs.size = none := size_none _
  have kp := kp_push (s := s) { cls := .type "list_iterator", data := .fields #[.ref ax, .int 0 0] }
  have new : (s.heap.push { cls := .type "list_iterator", data := .fields #[.ref ax, .int 0 0] }).get? s.heap.objs.size = some { cls := .type "list_iterator", data := .fields #[.ref ax, .int 0 0] } := Heap.get?_push_size _ rfl
  have F' := F.hide (I := s.heap.objs.size) fresh ⟨_, new⟩ (kp_heap kp)
  have ne : ax ≠ s.heap.objs.size := fun z => by obtain ⟨o, e, _⟩ := lx; rw [z, fresh] at e; cases e
  refine loop_ok (fp := [s.heap.objs.size, ax]) (n := vs.toArray.size) (hid := hid) (oa := oa) (Walks.list cx.hand s.heap.objs.size ax ne vs.toArray) hx cx ei (by simp [dx.length]) (not_g F fresh) (fun i v hi hv => ?_) ⟨⟨_, new, rfl, rfl⟩, lx.push _⟩ (fun i h hh => ?_) (fun b hb => ?_) (by simp) (F.live.fresh fresh) F' step h last fun fl s' o hl hk => hR fl s' o (hl.out (kp_trans k kp) (not_old k fresh)) hk
  · obtain ⟨y, hy, dy⟩ := dx.get' (i := i) (v := v) (by simpa using hv)
    refine ⟨y, hy, dy.mono fun b o e => ?_⟩
    have q := vw_some e
    have nb : b ≠ s.heap.objs.size := fun z => by rw [z, fresh] at q; cases q.1
    rw [vw_get (by have := q.2; simp at this ⊢; exact ⟨this.1, this.2.1, nb, this.2.2⟩)]
    exact Heap.get?_push_of_some _ q.1
  · obtain ⟨⟨o, e, _⟩, _⟩ := hh; exact ⟨o, e⟩
  · rcases List.mem_cons.mp hb with z | z
    · rw [z]; exact ⟨not_L F fresh, not_own F fresh, _, new⟩
    · rw [List.mem_singleton.mp z]
      simp at hax
      obtain ⟨o, e, _⟩ := lx
      exact ⟨hax.1, by simpa using hax.2.1, o, Heap.get?_push_of_some _ e⟩

theorem for_bytes {n : Nat} {sc : Scope} {x : Str} {px : Pos} {body : List Stmt} {env : Env} {A : Around} {hid : List Addr} {L : Addr} {oa : Option Addr} {s₀ s : Shared} {b : Array UInt8} {t : Tok}
    {f : FS} {J : Nat → FS → Prop} {fin : Out → Prop} {R : Result → Shared → Prop} {E : Value → Shared → Prop} (hx : sc.names.lookup x = some .local) (cx : Cx A n) (ei : EnvIs env sc L) (k : Keeps s₀ s) (F₀ : FrameAt g hid L oa f s₀.heap)
    (step : StepJ prog w g A env L x body (b.toList.map fun c => .int c.toNat) J fin) (h : J 0 f) (last : ∀ f', J (b.toList.map fun c => AV.int c.toNat).length f' → fin (.next f')) (hR : ∀ fl s' o, SOut g hid L oa s₀ o fl s' → fin o → R (.ok fl) s') :
    wpAny (model prog w) A (pyIter (.bytes b t)) (fun it s₂ => codeAny (model prog w) A (.forLoop (.Name x px) it body [] env) R s₂) E s := by
  refine KBw.pyIter_bytes ?_
  have F := F₀.ex k
  have fresh : s.heap.get? s.heap.objs.size = none := size_none _
  have kp := kp_push (s := s) { cls := .type "bytes_iterator", data := .fields #[.bytes b t, .int 0 0] }
  have new : (s.heap.push { cls := .type "bytes_iterator", data := .fields #[.bytes b t, .int 0 0] }).get? s.heap.objs.size = some { cls := .type "bytes_iterator", data := .fields #[.bytes b t, .int 0 0] } := Heap.get?_push_size _ rfl
  have F' := F.hide (I := s.heap.objs.size) fresh ⟨_, new⟩ (kp_heap kp)
  refine loop_ok (fp := [s.heap.objs.size]) (n := b.size) (hid := hid) (oa := oa) (KBw.walks cx.hand s.heap.objs.size b t) hx cx ei (by simp) (not_g F fresh) (fun i v hi hv => ?_) ⟨_, new, rfl, rfl⟩ (fun i h hh => ?_) (fun b hb => ?_) (by simp) (F.live.fresh fresh) F' step h last fun fl s' o hl hk => hR fl s' o (hl.out (kp_trans k kp) (not_old k fresh)) hk
  · obtain ⟨c, u, hc, rfl⟩ := hv
    exact ⟨.int c.toNat, by simp [hc], .int _ _⟩
  · obtain ⟨o, e, _⟩ := hh; exact ⟨o, e⟩
  · rw [List.mem_singleton.mp hb]; exact ⟨not_L F fresh, not_own F fresh, _, new⟩

theorem append_ok {hid : List Addr} {L a : Addr} {f : FS} {A : Around} {s : Shared} {E : Value → Shared → Prop} {u : Value} {v : AV} {y : Str} {xs : List AV} (F : FrameAt g hid L (some a) f s.heap) (ho : f.o = some (y, xs)) (hsz : xs.length ≤ 1048576)
    (d : Den (vw s.heap (a :: L :: hid)) u v) : wpAny (model prog w) A (call (.builtin "list.append") [.ref a, u]) (fun r s' => r = .none ∧ FrameAt g hid L (some a) ⟨f.l, some (y, xs ++ [v])⟩ s'.heap ∧ KB [a] s s') E s := by
  obtain ⟨m, hm, hl⟩ := F.ns
  rw [ho] at hl
  obtain ⟨h0, h1, h2, vs, ⟨n, h3⟩, h4, h5⟩ := hl
  have hz : vs.toArray.size ≤ sizeLine := by rw [List.size_toArray, h4.length, sizeLine_eq]; omega
  refine wpAny_call_entry slot_list_append (IsL.isList ⟨n, h3⟩).typeIs entry_list_append ?_ (args_list_append _ _)
  show wpAny _ _ (updateSeq a (·.push u) >>= fun _ => ret .none) _ _ s
  refine wpAny_bind (wpAny_updateSeq h3 rfl (wpAny_pure ⟨.none, rfl, rfl, ?_, ?_⟩) hz (by simp; simp at hz; omega))
  · refine F.setOwn ho (Heap.SameBut.update ..) (vs' := vs ++ [u]) ⟨n + 1, ?_⟩ (h4.append (.cons d .nil))
    rw [Heap.get?_update_self _ h3 rfl]
    simp [lobj, Obj.mapSeq]
  · exact ⟨_, _, rfl, fun b o n e => by rw [(Heap.SameBut.update _ a _).2 b (by simpa using n)]; exact e⟩

theorem extend_ok {hid : List Addr} {L a b : Addr} {f : FS} {A : Around} {s : Shared} {E : Value → Shared → Prop} {us : List Value} {vs : List AV} {y : Str} {xs : List AV} {k : Nat} (F : FrameAt g hid L (some a) f s.heap) (ho : f.o = some (y, xs)) (hsz : xs.length + vs.length ≤ 1048576)
    (hb : s.heap.get? b = some (lobj us k)) (d : DenAll (vw s.heap (a :: L :: hid)) us vs) : wpAny (model prog w) A (call (.builtin "list.extend") [.ref a, .ref b]) (fun r s' => r = .none ∧ FrameAt g hid L (some a) ⟨f.l, some (y, xs ++ vs)⟩ s'.heap ∧ KB [a] s s') E s := by
  obtain ⟨m, hm, hl⟩ := F.ns
  rw [ho] at hl
  obtain ⟨h0, h1, h2, ws, ⟨n, h3⟩, h4, h5⟩ := hl
  have hz : ws.length + us.length ≤ 1048576 := by rw [h4.length, d.length]; exact hsz
  refine call_meets PySem.F.slot_list_extend (IsL.isList ⟨n, h3⟩).typeIs PySem.F.entry_list_extend (PySem.F.args_list_extend_2 _ _)
    (AutoSeq1.list_extend_list_list_0 a ws.toArray n b us.toArray k ?_ ?_ ?_) ⟨h3, hb, rfl, ?_, ?_⟩
  · simp [Builtin.List.listTooLong, sizeLine_eq]; intro _; lia
  · rw [sizeLine_eq, List.size_toArray]; lia
  · rw [sizeLine_eq, List.size_toArray, List.size_toArray]; lia
  · have e : ∃ n', (Obj.mapSeq (fun x => x ++ us.toArray) (lobj ws n)) = lobj (ws ++ us) n' := by
      simp [lobj, Obj.mapSeq]
    obtain ⟨n', e⟩ := e
    refine F.setOwn ho (Heap.SameBut.update ..) (vs' := ws ++ us) ⟨n', ?_⟩ (h4.append d)
    rw [Heap.get?_update_self _ h3 (by simp [lobj, Obj.mapSeq, Obj.isFreed]), ← e]
  · exact ⟨_, _, rfl, fun b o n e => by rw [(Heap.SameBut.update _ a _).2 b (by simpa using n)]; exact e⟩
end
end Mine
end
/- M12 -/
section
open PySem PySem.W PyProof.Rows PySem.Calls
set_option Elab.async false
set_option linter.unusedVariables false
set_option linter.unusedSimpArgs false
namespace Mine
section
variable {prog : Program} {w : World} {T : Tab} {g : Heap}

theorem den_perm {h : Heap} {L : Addr} {oa : Option Addr} {hid : List Addr} {a : Addr} {u : Value} {v : AV} (d : Den (vw h (L :: ((some a).toList ++ hid))) u v) : Den (vw h (a :: L :: hid)) u v := by
  refine d.mono (vw_mono (fun _ _ e => e) fun b hb => ?_)
  simp at hb ⊢; rcases hb with h | h | h <;> simp [h]
theorem denAll_perm {h : Heap} {L : Addr} {hid : List Addr} {a : Addr} {u : List Value} {v : List AV} (d : DenAll (vw h (L :: ((some a).toList ++ hid))) u v) : DenAll (vw h (a :: L :: hid)) u v := by
  refine d.mono (vw_mono (fun _ _ e => e) fun b hb => ?_)
  simp at hb ⊢; rcases hb with h | h | h <;> simp [h]

theorem method_ok {sc : Scope} {x m : Str} {id : String} {px ap cp sp : Pos} {e : Expr} {A : Around} {env : Env} {hid : List Addr} {L a : Addr} {f : FS} {s : Shared} {E : Value → Shared → Prop} {y : Str} {xs : List AV} {Q : Flow → Shared → Prop}
    (hx : sc.names.lookup x = some .local) (ei : EnvIs env sc L) (F : FrameAt g hid L (some a) f s.heap) (ho : f.o = some (y, xs)) (hxy : x = y) (hline : (ap.endLine == cp.line) = true) (hdb : (x == ("__debug__" : Str)) = false)
    (slot : Slot "list" m id) (hty : typeOf (.builtin id) = pure (.type "method_descriptor")) (hstar : starEach [e] env = [(false, eval e env)])
    (h : wpAny (model prog w) A (eval e env) (fun u s₁ => wpAny (model prog w) A (call (.builtin id) [.ref a, u]) (fun r s₂ => r = .none ∧ Q .next s₂) E s₁) E s) :
    wpAny (model prog w) A (exec (.Expr (.Call (.Attribute (.Name x px) m ap) [e] [] cp) sp) env) Q E s := by
  refine wpAny_Expr (wpAny_mono (Q := fun r s' => r = .none ∧ Q .next s') ?_ (fun v s' h' => by obtain ⟨rfl, h'⟩ := h'; exact h') fun _ _ z => z) ?_ rfl
  · refine Call_method1 rfl hstar hline ?_
    obtain ⟨m', hm, hl⟩ := F.ns
    rw [ho] at hl
    obtain ⟨h0, h1, h2, vs, ⟨n, h3⟩, h4, h5⟩ := hl
    subst hxy
    refine wpAny_Name (wpAny_loadName_local (m := m') ?_ ?_ ?_ h2 ?_) hdb
    · rw [ei.scp]; exact ei.kind
    · show env.scope.names.lookup x = _; rw [ei.scp]; exact hx
    · rw [ei.loc]; exact hm
    refine ⟨"list", id, PySem.F.plainAttrs_list, slot, hty, (IsL.isList ⟨n, h3⟩).typeIs, fun a' e' => by cases e'; exact ⟨_, h3, rfl⟩, ?_⟩
    exact Calls.callWith_builtin rfl (Calls.evalArgs_plain (Calls.spliced_cons (wpAny_mono h (fun u s₁ h₁ => Calls.spliced_nil h₁) fun _ _ z => z)))
  · unfold interactive; rw [ei.scp, ei.kind]; rfl

theorem den_flat {φ : Addr → Option Obj} {u : Value} {r : AV} (d : Den φ u r) (h : flat r = true) : Den (fun _ => none) u r := by
  cases d with
  | list => cases h
  | none => exact .none
  | bool b => exact .bool b
  | int i t => exact .int i t
  | str x t => exact .str x t
  | bytes b t => exact .bytes b t
  | typ n => exact .typ n
/-- a loop that is run by the interpreter -/
noncomputable def RunJ {α : Type} (T : Tab) (sc : Scope) (n : Nat) (x : Str) (body : List Stmt) (xs : List AV) (k : Out → Qt α) (r : α) (i : Nat) (f : FS) : Prop := ∃ fuel, fuel ≤ n ∧ (loopT T sc fuel x body (xs.drop i) f k).val = some r
theorem runJ_step {α : Type} {n : Nat} (iss : ∀ m, m ≤ n → ExsK prog w T g m) {sc : Scope} {x : Str} {body : List Stmt} {xs : List AV} {k : Out → Qt α} {r : α} {A : Around} {env : Env} {L : Addr} (c : Cx A n) (ei : EnvIs env sc L) :
    StepJ prog w g A env L x body xs (RunJ T sc n x body xs k r) (fun o => (k o).val = some r) := by
  intro i y f' hid oa s E ⟨fuel, hf, hl⟩ hy F
  obtain ⟨lt, e⟩ := List.getElem?_eq_some_iff.mp hy
  rw [List.drop_eq_getElem_cons lt, e] at hl
  cases fuel with
  | zero => cases hl
  | succ fuel =>
    refine wpAny_mono (iss fuel (by omega) sc body (f'.set x y) (fun o => (match o with | .next f' => loopT T sc fuel x body (xs.drop (i + 1)) f' k | .cont f' => loopT T sc fuel x body (xs.drop (i + 1)) f' k | .brk f' => k (.next f') | .ret v => k (.ret v))) r hl A env hid L oa s E (c.mono (by omega)) ei F) (fun fl s' h => ?_) fun _ _ z => z
    obtain ⟨o, so, h⟩ := h
    refine ⟨o, so, ?_⟩
    cases o with
    | next f => exact ⟨fuel, by omega, h⟩
    | cont f => exact ⟨fuel, by omega, h⟩
    | brk f => exact h
    | ret v => exact h
theorem runJ_last {α : Type} {n : Nat} {sc : Scope} {x : Str} {body : List Stmt} {xs : List AV} {k : Out → Qt α} {r : α} (f' : FS) (h : RunJ T sc n x body xs k r xs.length f') : (k (.next f')).val = some r := by
  obtain ⟨fuel, _, h⟩ := h
  rw [List.drop_length] at h
  cases fuel <;> exact h
theorem ex_succ {n : Nat} (hT : TopIs T g) (i1 : EvK prog w T g n) (i2 : EvsK prog w T g n) (its : ∀ m, m ≤ n → TrK prog w T g m) (iss : ∀ m, m ≤ n → ExsK prog w T g m) : ExK prog w T g (n + 1) := by
  intro α sc st f k r h A env hid L oa s E c ei F
  have c' := c.less
  have evNo : ∀ {e : Expr} {K : AV → Qt α}, (evT T sc n e f.noOwn K).val = some r → wpAny (model prog w) A (eval e env) (PostK (L :: (oa.toList ++ hid)) s K r) E s := fun {e K} he => i1 sc e f.noOwn K r he A env (oa.toList ++ hid) L none s E c' ei F.noOwn.toFrameW
  have store : ∀ {x : Str} {s₁ : Shared} {u : Value} {v : AV}, sc.names.lookup x = some .local → Keeps s s₁ → Den (vw s₁.heap (L :: (oa.toList ++ hid))) u v → (k (.next (f.set x v))).val = some r →
      wpAny (model prog w) A (storeName env x u) (fun _ => SOutK g hid L oa s k r .next) E s₁ := by
    intro x s₁ u v hx k1 d hk
    refine wpAny_mono (store_ok hx ei (F.ex k1) d) (fun _ s₂ h₂ => ?_) fun _ _ z => z
    obtain ⟨oa', F', kb, ow⟩ := h₂
    exact ⟨.next (f.set x v), ⟨oa', F', kb_weak k1 kb, fun a e => .inl (ow a e)⟩, hk⟩
  have noO : f.o = none → oa = none := fun ho => by
    cases oa with
    | none => rfl
    | some a => obtain ⟨m, hm, hl⟩ := F.ns; rw [ho] at hl; exact hl.elim
  cases st with
  | Return v pos =>
    obtain ⟨e, rfl, h1⟩ := val_ofO h
    exact wpAny_Return_some (wpAny_mono (i1 sc e f _ r h1 A env hid L oa s E c' ei F.toFrameW) (fun u s₁ h₁ => by obtain ⟨k1, v, d, h2⟩ := h₁; exact ⟨.ret v, ⟨d, KB.of_keeps k1⟩, h2⟩) fun _ _ z => z)
  | Assign ts e pos =>
    obtain ⟨t, ht, h1⟩ := val_ofO h
    obtain ⟨x, hx, h2⟩ := val_ofO h1
    obtain ⟨hl, h3⟩ := val_if h2
    clear h h1 h2
    cases one_ok ht
    obtain ⟨px, rfl⟩ := nameOf_ok hx
    rcases val_cond h3 with ⟨hn, h4⟩ | ⟨hn, h4⟩
    · obtain ⟨p, rfl⟩ := isNil_ok hn
      cases ho : f.o with
      | some _ => rw [ho] at h4; cases h4
      | none =>
        rw [ho] at h4
        cases noO ho
        refine wpAny_Assign_Name (List_ (spliced_nil (wpAny_newList ?_ (by simp)))) rfl
        obtain ⟨m, hm, _⟩ := id F.ns
        have kp := kp_push (s := s) { cls := .type "list", data := .seq ([] : List Value).toArray }
        have fresh : s.heap.get? s.heap.objs.size = none := size_none _
        refine wpAny_storeName_local (m := m) ?_ (by rw [ei.loc]; exact hm.keeps (kp_heap kp)) (fun h' hn hs => ?_) ?_
        · show env.scope.names.lookup x = _; rw [ei.scp]; exact hl
        · rw [ei.loc] at hn hs
          refine ⟨.next (f.putOwn x []), ⟨some s.heap.objs.size, F.newOwn ho fresh (fun m' hm' => ?_) (fun b o nb e => ?_) ⟨0, ?_⟩, ⟨h', _, rfl, fun b o nb e => ?_⟩, fun a e => .inr (by cases e; exact fresh)⟩, h4⟩
          · have e : m' = m := by
              obtain ⟨o1, es1, ep1, a1, b1, c1, d1⟩ := hm
              obtain ⟨o2, es2, ep2, a2, b2, c2, d2⟩ := hm'
              rw [a1] at a2; cases a2
              rw [b1] at b2; cases b2
              funext y; rw [← d1 y, ← d2 y]
            rw [e]; exact hn
          · rw [hs.2 b nb]; exact Heap.get?_push_of_some _ e
          · rw [hs.2 _ (not_L F fresh)]; exact Heap.get?_push_size _ rfl
          · rw [hs.2 b (fun z => nb (by rw [z]; exact List.mem_cons_self ..))]; exact Heap.get?_push_of_some _ e
        · rw [ei.scp, ei.kind]; rfl
    · refine wpAny_Assign_Name (wpAny_mono (i1 sc e f _ r h4 A env hid L oa s E c' ei F.toFrameW) (fun u s₁ h₁ => ?_) fun _ _ z => z) (swap_none (ev_is h4) _ _ _)
      obtain ⟨k1, v, d, h5⟩ := h₁
      obtain ⟨hf, h6⟩ := val_if h5
      refine store hl k1 ?_ h6
      rcases hf with hf | hf
      · cases noO (Option.isNone_iff_eq_none.mp hf); exact d
      · exact (den_flat d hf).mono fun _ _ z => by cases z
  | AugAssign t op e pos =>
    obtain ⟨x, hx, h1⟩ := val_ofO h
    obtain ⟨⟨hl, hadd⟩, h2⟩ := val_if h1
    obtain ⟨a, ha, h3⟩ := val_ofO h2
    obtain ⟨v0, hv0, hs0⟩ := obind ha
    cases strOf'_ok hs0
    obtain ⟨px, rfl⟩ := nameOf_ok hx
    cases op with
    | Add =>
      refine wpAny_AugAssign_Name ?_
      obtain ⟨m, u, hm, hu, d⟩ := F.noOwn.toFrameW.get hv0
      refine wpAny_loadName_local (m := m) ?_ ?_ ?_ hu ?_
      · rw [ei.scp]; exact ei.kind
      · show env.scope.names.lookup x = _; rw [ei.scp]; exact hl
      · rw [ei.loc]; exact hm
      obtain ⟨t1, rfl⟩ := d.inv_str
      refine wpAny_mono (evNo h3) (fun u s₁ h₁ => ?_) fun _ _ z => z
      obtain ⟨k1, v, d1, h4⟩ := h₁
      obtain ⟨b, hb, h5⟩ := val_ofO h4
      cases strOf'_ok hb
      obtain ⟨q, h6⟩ := val_need h5
      have q := of_decide_eq_true q
      obtain ⟨t2, rfl⟩ := d1.inv_str
      refine PyProof.Rows.iadd_str (fun t' tk => ?_) (by rw [sizeLine_eq]; omega)
      exact store hl (kp_trans k1 (kp_tok _)) (.str _ _) h6
    | _ => cases hadd
  | Expr e pos =>
    obtain ⟨⟨x, m, a⟩, hm, h1⟩ := val_ofO h
    obtain ⟨⟨y, xs⟩, ho, h2⟩ := val_ofO h1
    obtain ⟨⟨hx, hxy, hdb⟩, h3⟩ := val_if h2
    clear h h1 h2
    obtain ⟨px, ap, cp, rfl, hline⟩ := methOf_ok hm
    cases oa with
    | none => obtain ⟨m, hm, hl⟩ := F.ns; rw [ho] at hl; exact hl.elim
    | some la =>
    have fin : ∀ {s₁ s₂ : Shared} {ys : List AV}, Keeps s s₁ → FrameAt g hid L (some la) ⟨f.l, some (y, ys)⟩ s₂.heap → KB [la] s₁ s₂ → SOut g hid L (some la) s (.next ⟨f.l, some (y, ys)⟩) .next s₂ := fun {s₁ s₂ ys} k F2 k2 =>
      ⟨some la, F2, (KB.of_keeps (W := []) k).trans k2 fun b o e n => ⟨List.not_mem_nil, fun z => n (by rw [List.mem_singleton.mp z]; simp)⟩, fun a e => .inl e⟩
    by_cases hmm : m = "append"
    · subst hmm
      have h3 : (evT T sc n a f.noOwn fun v => .need (decide (xs.length ≤ 1048576)) (k (.next ⟨f.l, some (y, xs ++ [v])⟩))).val = some r := h3
      refine method_ok (id := "list.append") hx ei F ho hxy hline hdb PySem.F.slot_list_append PySem.F.type_list_append (star_is (ev_is h3) [] env) (wpAny_mono (evNo h3) (fun u s₁ h₁ => ?_) fun _ _ z => z)
      obtain ⟨k1, v, d, h4⟩ := h₁
      obtain ⟨q, h5⟩ := val_need h4
      exact wpAny_mono (append_ok (F.ex k1) ho (of_decide_eq_true q) (den_perm (oa := none) d)) (fun r s₂ h₂ => ⟨h₂.1, .next ⟨f.l, some (y, xs ++ [v])⟩, fin k1 h₂.2.1 h₂.2.2, h5⟩) fun _ _ z => z
    · have h3 : (if m = "append" then _ else if m = "extend" then ofO (listOf a) fun es => evsT T sc n es f.noOwn fun vs => .need (decide (xs.length + vs.length ≤ 1048576)) (k (.next ⟨f.l, some (y, xs ++ vs)⟩)) else .fail).val = some r := h3
      rw [if_neg hmm] at h3
      obtain ⟨hmm, h4⟩ := val_if h3
      clear h3
      subst hmm
      obtain ⟨es, hes, h5⟩ := val_ofO h4
      obtain ⟨p, rfl⟩ := listOf_ok hes
      refine method_ok (id := "list.extend") hx ei F ho hxy hline hdb PySem.F.slot_list_extend PySem.F.type_list_extend rfl ?_
      refine List_ (wpAny_mono (i2 sc es f.noOwn _ r h5 A env ((some la).toList ++ hid) L none s p E c' ei F.noOwn.toFrameW) (fun us s₁ h₁ => ?_) fun _ _ z => z)
      obtain ⟨k1, vs, d, h6⟩ := h₁
      obtain ⟨q, h7⟩ := val_need h6
      have kp := kp_push (s := s₁) { cls := .type "list", data := .seq us.toArray }
      have k2 := kp_trans k1 kp
      have q := of_decide_eq_true q
      refine wpAny_newList ?_ (by rw [d.length, sizeLine_eq]; omega)
      exact wpAny_mono (extend_ok (s := { s₁ with heap := s₁.heap.push { cls := .type "list", data := .seq us.toArray } }) (k := 0) (F.ex k2) ho q (Heap.get?_push_size _ rfl) (denAll_perm (d.kp kp))) (fun r s₂ h₂ => ⟨h₂.1, .next ⟨f.l, some (y, xs ++ vs)⟩, fin k2 h₂.2.1 h₂.2.2, h7⟩) fun _ _ z => z
  | If t b o' pos =>
    refine wpAny_If (wpAny_mono (its n (Nat.le_refl _) sc t f (fun c => cond c (exsT T sc n b f k) (exsT T sc n o' f k)) r h A env hid L oa s E c' ei F.toFrameW) (fun q s₁ h₁ => ?_) fun _ _ z => z)
    obtain ⟨k1, h1⟩ := h₁
    cases q <;> exact wpAny_mono (iss n (Nat.le_refl _) sc _ f k r h1 A env hid L oa s₁ E c' ei (F.ex k1)) (fun fl s₂ h₂ => by obtain ⟨o, so, h⟩ := h₂; exact ⟨o, so.after (KB.of_keeps k1) (fun a e => .inl e), h⟩) fun _ _ z => z
  | While t body orelse pos =>
    obtain ⟨ho, h1⟩ := val_if h
    cases orelse with
    | cons _ _ => cases ho
    | nil => exact wpAny_While (wloop_ok its iss c' ei F h1 fun fl s' h' => h')
  | For t it body orelse pos =>
    obtain ⟨x, hx, h1⟩ := val_ofO h
    obtain ⟨⟨hl, ho⟩, h2⟩ := val_if h1
    clear h h1
    obtain ⟨px, rfl⟩ := nameOf_ok hx
    cases orelse with
    | cons _ _ => cases ho
    | nil =>
    cases hr : rangeOf it with
    | some p =>
      obtain ⟨e, es⟩ := p
      rw [hr] at h2
      obtain ⟨⟨hlr, g1, g2, g3⟩, h3⟩ := val_if h2
      obtain ⟨⟨gp, cp, rfl⟩, hall⟩ := rangeOf_ok hr
      have hall' : (isEv e && es.all isEv) = true := hall
      refine wpAny_For ?_ (fun _ => rfl)
      refine Call_ (blt_name hT hlr (u := .type "range") (by decide +kernel) (Option.isNone_iff_eq_none.mp g1) (Option.isNone_iff_eq_none.mp g2) (Option.isNone_iff_eq_none.mp g3) ei F.top ?_)
      refine PyProof.Rows.callWith_type1 ?_ (star_is (Bool.and_eq_true_iff.mp hall').1 es env) (stars_are (Bool.and_eq_true_iff.mp hall').2)
      refine wpAny_mono (i2 sc (e :: es) f _ r h3 A env hid L oa s cp E c' ei F.toFrameW) (fun vs s₁ h₁ => ?_) fun _ _ z => z
      obtain ⟨k1, xs, d, h4⟩ := h₁
      obtain ⟨⟨a, b, cc⟩, hra, h5⟩ := val_ofO h4
      obtain ⟨q, h6⟩ := val_need h5
      have q : 0 ≤ a ∧ a ≤ 1048576 ∧ 0 ≤ b ∧ b ≤ 1048576 ∧ 0 < cc ∧ cc ≤ 1048576 := of_decide_eq_true q
      obtain ⟨q1, q2, q3, q4, q5, q6⟩ := q
      have go : wpAny (model prog w) A (call (.type "range") vs) (fun rv s₂ => ∃ r t u v, rv = .ref r ∧ Keeps s s₂ ∧ IsRange s₂.heap r a b cc t u v) E s₁ := by
        cases xs with
        | nil => cases hra
        | cons x1 r1 =>
          obtain ⟨v1, us, rfl, d1, e1⟩ := d.inv_cons
          obtain ⟨i, hi, hra⟩ := obind hra
          cases intOf_ok hi
          obtain ⟨t1, rfl⟩ := d1.inv_int
          cases r1 with
          | nil =>
            cases hra
            cases e1.inv_nil
            exact call_range_1 ⟨_, _, _, _, rfl, kp_trans k1 (kp_trans (kp_push _) (kp_tok _)), IsRange.new ..⟩
          | cons x2 r2 =>
            obtain ⟨v2, us, rfl, d2, e2⟩ := e1.inv_cons
            obtain ⟨j, hj, hra⟩ := obind hra
            cases intOf_ok hj
            obtain ⟨t2, rfl⟩ := d2.inv_int
            obtain ⟨x3, h3, hra⟩ := obind hra
            cases one_ok h3
            obtain ⟨v3, us, rfl, d3, e3⟩ := e2.inv_cons
            cases e3.inv_nil
            obtain ⟨kk, hk, hra⟩ := obind hra
            cases intOf_ok hk
            obtain ⟨t3, rfl⟩ := d3.inv_int
            cases hra
            exact call_range_3 (by omega) ⟨_, _, _, _, rfl, kp_trans k1 (kp_push _), IsRange.new ..⟩ (.inl (PyProof.noPylong_small (by omega)))
      refine wpAny_mono go (fun rv s₂ h₂ => ?_) fun _ _ z => z
      obtain ⟨r', t, u, v, rfl, k2, hr2⟩ := h₂
      exact for_range hl c' ei k2 F hr2 q1 q2 q3 q4 q5 q6 (runJ_step iss c' ei) ⟨n, Nat.le_refl _, h6⟩ runJ_last fun fl s' o so hk => ⟨o, so, hk⟩
    | none =>
      rw [hr] at h2
      refine wpAny_For (wpAny_mono (evNo h2) (fun u s₁ h₁ => ?_) fun _ _ z => z) (folded_is (ev_is h2) env)
      obtain ⟨k1, v, d, h3⟩ := h₁
      obtain ⟨xs, hxs, h4⟩ := val_ofO h3
      cases v with
      | list ys => cases hxs; exact for_list hl c' ei k1 F d (runJ_step iss c' ei) ⟨n, Nat.le_refl _, h4⟩ runJ_last fun fl s' o so hk => ⟨o, so, hk⟩
      | bytes b =>
        cases hxs
        obtain ⟨b, t, rfl, rfl⟩ := d.inv_bytes
        exact for_bytes hl c' ei k1 F (runJ_step iss c' ei) ⟨n, Nat.le_refl _, h4⟩ runJ_last fun fl s' o so hk => ⟨o, so, hk⟩
      | _ => cases hxs
  | _ => cases h
end
end Mine
end
/- M13 -/
section
open PySem PySem.W PyProof.Rows PySem.Calls
set_option Elab.async false
set_option linter.unusedVariables false
namespace Mine
section
variable {prog : Program} {w : World} {T : Tab} {g : Heap}

structure AllK (prog : Program) (w : World) (T : Tab) (g : Heap) (n : Nat) : Prop where
  ev : EvK prog w T g n
  evs : EvsK prog w T g n
  tr : TrK prog w T g n
  call : CallK prog w T g n
  exs : ExsK prog w T g n
  ex : ExK prog w T g n
structure AllOk (prog : Program) (w : World) (T : Tab) (g : Heap) (n : Nat) : Prop where
  ev : EvOk prog w T g n
  tr : TrOk prog w T g n
  call : CallOk prog w T g n
  exs : ExsOk prog w T g n
  ex : ExOk prog w T g n

theorem allK (hT : TopIs T g) (hN : NatOk prog w T g) : ∀ n m, m ≤ n → AllK prog w T g m := by
  intro n
  induction n with
  | zero =>
    intro m hm
    cases Nat.le_zero.mp hm
    refine AllK.mk ?_ ?_ ?_ ?_ ?_ ?_
    · intro α sc e f k r h; cases h
    · intro α sc e f k r h; cases h
    · intro α sc e f k r h; cases h
    · intro α x F xs k r hF h; cases h
    · intro α sc e f k r h; cases h
    · intro α sc e f k r h; cases h
  | succ n ih =>
    intro m hm
    rcases Nat.lt_or_ge m (n + 1) with q | q
    · exact ih m (by omega)
    · cases (Nat.le_antisymm hm q)
      have i := ih n (Nat.le_refl _)
      exact ⟨ev_succ hT hN i.ev i.evs i.tr i.call, evs_succ i.ev i.evs, tr_succ i.ev i.tr, call_succ hT i.exs, exs_succ i.ex i.exs, ex_succ hT i.ev i.evs (fun k hk => (ih k hk).tr) fun k hk => (ih k hk).exs⟩
theorem allOk (hT : TopIs T g) (hN : NatOk prog w T g) : ∀ n m, m ≤ n → AllOk prog w T g m := fun n m hm =>
  let a := allK hT hN n m hm
  ⟨EvK.ok a.ev, TrK.ok a.tr, CallK.ok a.call, ExsK.ok a.exs, ExK.ok a.ex⟩
end
end Mine
end
/- M14 -/
section
open PySem PySem.W PyProof.Rows PySem.Calls
set_option Elab.async false
set_option linter.unusedVariables false
set_option linter.unusedSimpArgs false
namespace Mine
/-- a comprehension over whole numbers -/
noncomputable def evMap (T : Tab) (sc : Scope) (n : Nat) (x : Str) (elt : Expr) (as : List Int) (rs : List AV) : Prop := as.length = rs.length ∧ ∀ (i : Nat) (a : Int), as[i]? = some a → ∃ r, rs[i]? = some r ∧ ev T sc n elt ⟨[(x, .int a)], none⟩ = some r ∧ flat r = true
theorem evMap.tail {T : Tab} {sc : Scope} {n : Nat} {x : Str} {elt : Expr} {a : Int} {as : List Int} {r : AV} {rs : List AV} (h : evMap T sc n x elt (a :: as) (r :: rs)) : evMap T sc n x elt as rs := ⟨Nat.succ.inj h.1, fun i a e => h.2 (i + 1) a e⟩
theorem evMap_at {T : Tab} {sc : Scope} {n : Nat} {x : Str} {elt : Expr} {as : List Int} {rs : List AV} (h : evMap T sc n x elt as rs) {i : Nat} {a : Int} (e : as[i]? = some a) : ∃ r, ev T sc n elt ⟨[(x, .int a)], none⟩ = some r ∧ flat r = true :=
  let ⟨r, _, h1, h2⟩ := h.2 i a e
  ⟨r, h1, h2⟩
noncomputable def CompF (T : Tab) (sc : Scope) (n : Nat) (x : Str) (elt : Expr) (v y : Value) : Prop := ∃ a t r, v = .int a t ∧ ev T sc n elt ⟨[(x, .int a)], none⟩ = some r ∧ Den (fun _ => none) y r
theorem paired_den {T : Tab} {sc : Scope} {n : Nat} {x : Str} {elt : Expr} : ∀ {as : List Int} {rs : List AV} {vs ys : List Value}, evMap T sc n x elt as rs → vs.length = as.length → (∀ (j : Nat) (v : Value), vs[j]? = some v → ∃ (a : Int) (t : Tok), as[j]? = some a ∧ v = Value.int a t) →
    Paired (CompF T sc n x elt) vs ys → DenAll (fun _ => none) ys rs := by
  intro as
  induction as with
  | nil =>
    intro rs vs ys h e _ p
    cases vs with
    | cons _ _ => cases e
    | nil =>
      cases rs with
      | cons _ _ => cases h.1
      | nil => cases p; exact .nil
  | cons a as ih =>
    intro rs vs ys h e hP p
    cases vs with
    | nil => cases e
    | cons v vs =>
      cases rs with
      | nil => cases h.1
      | cons r rs =>
        cases p with
        | cons hF hr =>
          obtain ⟨a', t, r', rfl, h1, h2⟩ := hF
          obtain ⟨a2, t2, e1, e2⟩ := hP 0 _ rfl
          cases e1
          cases e2
          obtain ⟨r2, e3, hv, _⟩ := h.2 0 a rfl
          cases e3
          rw [hv] at h1; cases h1
          exact .cons h2 (ih h.tail (Nat.succ.inj e) (fun j v hj => hP (j + 1) v hj) hr)

section
variable {prog : Program} {w : World} {T : Tab} {g : Heap}
theorem quiet_ok {n : Nat} (i : EvOk prog w T g n) {A : Around} {env : Env} {sc scope : Scope} {L : Addr} {x : Str} {elt : Expr} {wr : List Addr} {P : Nat → Value → Prop} {as : List Int} {rs : List AV} {s₂ : Shared} (c : Cx A n) (ei : EnvIs env sc L)
    (hk : scope.kind = .function) (h : evMap T scope n x elt as rs) (hP : ∀ (i : Nat) (v : Value), P i v → ∃ (a : Int) (t : Tok), as[i]? = some a ∧ v = Value.int a t) (top : ∀ b o, g.get? b = some o → s₂.heap.get? b = some o) (hw : ∀ b ∈ wr, g.get? b = none) :
    QuietOn prog w A env scope x [] elt wr P (fun _ => true) (CompF T scope n x elt) s₂ where
  tests := fun C i v s₃ m₃ E' _ _ _ _ _ => wpAny_pure ⟨rfl, kp_refl _⟩
  elt := fun C j v s₃ m₃ E' hv _ hn hm kp _ => by
    obtain ⟨a, t, ha, rfl⟩ := hP j v hv
    obtain ⟨r, hr, hf⟩ := evMap_at h ha
    have F : FrameW g [] C none ⟨[(x, .int a)], none⟩ s₃.heap := by
      refine ⟨fun b hb => absurd hb List.not_mem_nil, List.not_mem_nil, fun b o e => kp b o (fun z => by rw [hw b z] at e; cases e) (top b o e), m₃, hn, ?_⟩
      intro y v e
      simp only [List.lookup] at e
      split at e
      · rename_i q
        cases e
        rw [eq_of_beq q]
        exact ⟨_, hm, .int _ _⟩
      · cases e
    refine wpAny_mono (i scope elt _ r hr A (compEnv scope C env) [] C none s₃ E' c ⟨rfl, rfl, ei.gl, ei.bl, hk⟩ F) (fun y s₄ h₄ => ?_) fun _ _ z => z
    exact ⟨⟨a, t, r, rfl, hr, den_flat h₄.2 hf⟩, h₄.1⟩

structure CompWf (scope : Scope) (x : Str) : Prop where
  free : ∀ y ∈ scope.names, y.2 ≠ .free
  cell : ∀ y ∈ scope.names, y.2 ≠ .cell
  kind : scope.kind = .function
  names : ∀ y ∈ scope.names, y.2 = .local → scope.names.lookup y.1 = some .local
  x : scope.names.lookup x = some .local

theorem filter_true {α : Type} (l : List α) : l.filter (fun _ => true) = l := by simp

/-- a comprehension over octets -/
theorem comp_bytes {n : Nat} (i : EvOk prog w T g n) {A : Around} {env : Env} {sc scope : Scope} {hid : List Addr} {L : Addr} {oa : Option Addr} {f : FS} {x : Str} {px pos : Pos} {elt iter : Expr} {b : List UInt8} {rs : List AV} {s : Shared} {E : Value → Shared → Prop} (c : Cx A n) (ei : EnvIs env sc L)
    (wf : CompWf scope x) (F : FrameW g hid L oa f s.heap) (hb : b.length ≤ 1048576) (hit : ev T sc n iter f = some (.bytes b)) (h : evMap T scope n x elt (b.map fun c => (c.toNat : Int)) rs) :
    wpAny (model prog w) A (eval (.ListComp elt [⟨.Name x px, iter, [], 0⟩] scope pos) env) (fun v s' => Keeps s s' ∧ ∃ a vs, v = .ref a ∧ s.heap.get? a = none ∧ s'.heap.IsList a vs.toArray ∧ DenAll (fun _ => none) vs rs) E s := by
  refine wpAny_ListComp_walk (fun _ => true) (CompF T scope n x elt) wf.free wf.cell wf.kind wf.names wf.x (wpAny_mono (i sc iter f _ hit A env hid L oa s E c ei F) (fun v s₁ h₁ => ?_) fun _ _ z => z) (folded_id hit env)
  obtain ⟨k, d⟩ := h₁
  cases d
  rename_i ar t
  refine KBw.pyIter_bytes ?_
  have F1 := F.ex k
  have fresh : s₁.heap.get? s₁.heap.objs.size = none := size_none _
  have kp := kp_push (s := s₁) { cls := .type "bytes_iterator", data := .fields #[.bytes ar t, .int 0 0] }
  have new : (s₁.heap.push { cls := .type "bytes_iterator", data := .fields #[.bytes ar t, .int 0 0] }).get? s₁.heap.objs.size = some { cls := .type "bytes_iterator", data := .fields #[.bytes ar t, .int 0 0] } := Heap.get?_push_size _ rfl
  have hg : g.get? s₁.heap.objs.size = none := by
    cases e : g.get? s₁.heap.objs.size with
    | none => rfl
    | some o => rw [F1.top _ _ e] at fresh; cases fresh
  have hP : ∀ (i : Nat) (v : Value), (∃ (c : UInt8) (u : Tok), ar[i]? = some c ∧ v = Value.int (c.toNat : Int) u) → ∃ a t, (ar.toList.map fun c => (c.toNat : Int))[i]? = some a ∧ v = Value.int a t := by
    intro i v ⟨c, u, hc, e⟩
    exact ⟨c.toNat, u, by simp [hc], e⟩
  refine ⟨s₁.heap.objs.size, [s₁.heap.objs.size], [s₁.heap.objs.size], ar.size, _, _, rfl, KBw.walks c.hand s₁.heap.objs.size ar t, ?_, ⟨_, new, rfl, rfl⟩, fun b hb => ?_, quiet_ok i c ei wf.kind h hP (fun b o e => kp_heap kp b o (F1.top b o e)) (fun b hb => by rw [List.mem_singleton.mp hb]; exact hg), fun D h' tk ys vs hD hl hpl hlen hPv hF hk => ?_⟩
  · rw [sizeLine_eq]; simp at hb; lia
  · rw [List.mem_singleton.mp hb]; exact Heap.lt_size new
  · have k3 : Keeps s₁ { s₁ with heap := h', toks := tk } := ⟨h', tk, rfl, fun b o e => hk b o (fun z => by rw [List.mem_singleton.mp z, fresh] at e; cases e) (kp_heap kp b o e)⟩
    refine ⟨kp_trans k k3, D, ys.toList, rfl, not_old (kp_trans k kp) hD, by simpa using hl, ?_⟩
    rw [filter_true] at hF
    exact paired_den h (by simp [hlen]) (fun j v hj => hP j v (hPv j v hj)) hF
end
end Mine
end
/- M15 -/
section
open PySem PySem.W PyProof.Rows PySem.Calls
set_option Elab.async false
set_option linter.unusedVariables false
set_option linter.unusedSimpArgs false
namespace Mine
section
variable {prog : Program} {w : World} {T : Tab} {g : Heap}
theorem ns_same {h : Heap} {L : Addr} {m m' : Str → Option Value} (hm : h.Ns L m) (hm' : h.Ns L m') : m' = m := by
  obtain ⟨o1, es1, ep1, a1, b1, c1, d1⟩ := hm
  obtain ⟨o2, es2, ep2, a2, b2, c2, d2⟩ := hm'
  rw [a1] at a2; cases a2
  rw [b1] at b2; cases b2
  funext y; rw [← d1 y, ← d2 y]
theorem ints_at {φ : Addr → Option Obj} : ∀ {xs : List AV} {vs : List Value} {as : List Int}, DenAll φ vs xs → intsOf xs = some as → ∀ (i : Nat) (v : Value), vs[i]? = some v → ∃ (a : Int) (t : Tok), as[i]? = some a ∧ v = Value.int a t := by
  intro xs
  induction xs with
  | nil => intro vs as d h i v e; cases d.inv_nil; cases e
  | cons x xs ih =>
    intro vs as d h i v e
    obtain ⟨a, l, rfl, hl, rfl⟩ := intsOf_cons h
    obtain ⟨v1, us, rfl, d1, d2⟩ := d.inv_cons
    obtain ⟨t, rfl⟩ := d1.inv_int
    cases i with
    | zero => cases e; exact ⟨a, t, rfl, rfl⟩
    | succ i => exact ih d2 hl i v e
theorem ints_len : ∀ {xs : List AV} {as : List Int}, intsOf xs = some as → xs.length = as.length := by
  intro xs
  induction xs with
  | nil => intro as h; cases h; rfl
  | cons x xs ih =>
    intro as h
    obtain ⟨a, l, rfl, hl, rfl⟩ := intsOf_cons h
    exact congrArg (· + 1) (ih hl)

/-- a name is given a comprehension over whole numbers -/
theorem comp_assign {n : Nat} (i : EvOk prog w T g n) {A : Around} {env : Env} {sc scope : Scope} {hid : List Addr} {L : Addr} {oa : Option Addr} {f : FS} {x y : Str} {px py pos spos : Pos} {elt iter : Expr} {xs rs : List AV} {as : List Int} {s : Shared} {E : Value → Shared → Prop} (c : Cx A n) (ei : EnvIs env sc L)
    (wf : CompWf scope x) (hy : sc.names.lookup y = some .local) (hsw : swapsWith (.ListComp elt [⟨.Name x px, iter, [], 0⟩] scope pos) (some (.Name y py)) spos.line env = pure true)
    (F : FrameAt g hid L oa f s.heap) (hb : xs.length ≤ 1048576) (hit : ev T sc n iter f.noOwn = some (.list xs)) (has : intsOf xs = some as) (h : evMap T scope n x elt as rs) :
    wpAny (model prog w) A (exec (.Assign [.Name y py] (.ListComp elt [⟨.Name x px, iter, [], 0⟩] scope pos) spos) env) (SOut g hid L oa s (.next (f.put y (.list rs)))) E s := by
  have ekind : env.kindOf y = some .local := by show env.scope.names.lookup y = _; rw [ei.scp]; exact hy
  refine wpAny_Assign_ListComp_walk (fun _ => true) (CompF T scope n x elt) hsw wf.free wf.cell wf.kind wf.names wf.x ekind (by rw [ei.scp, ei.kind]; rfl) (wpAny_mono (i sc iter f.noOwn _ hit A env (oa.toList ++ hid) L none s E c ei F.noOwn.toFrameW) (fun v s₁ h₁ => ?_) fun _ _ z => z) (folded_id hit env)
  obtain ⟨k, d⟩ := h₁
  obtain ⟨ax, vs, rfl, hax, lx, dx⟩ := d.isList
  refine wpAny_pyIter_list lx ?_
  have F1 := F.ex k
  have fresh : s₁.heap.get? s₁.heap.objs.size = none := size_none _
  have kp := kp_push (s := s₁) { cls := .type "list_iterator", data := .fields #[.ref ax, .int 0 0] }
  have new : (s₁.heap.push { cls := .type "list_iterator", data := .fields #[.ref ax, .int 0 0] }).get? s₁.heap.objs.size = some { cls := .type "list_iterator", data := .fields #[.ref ax, .int 0 0] } := Heap.get?_push_size _ rfl
  have ne : ax ≠ s₁.heap.objs.size := fun z => by obtain ⟨o, e, _⟩ := lx; rw [z, fresh] at e; cases e
  obtain ⟨m, hm, _⟩ := id F1.ns
  have hP : ∀ (i : Nat) (v : Value), vs.toArray[i]? = some v → ∃ (a : Int) (t : Tok), as[i]? = some a ∧ v = Value.int a t := fun i v e => ints_at dx has i v (by simpa using e)
  refine ⟨s₁.heap.objs.size, [s₁.heap.objs.size, ax], [s₁.heap.objs.size], vs.toArray.size, _, _, m, rfl, Walks.list c.hand s₁.heap.objs.size ax ne vs.toArray, ?_, ⟨⟨_, new, rfl, rfl⟩, lx.push _⟩, fun b hb => ?_, ?_, by rw [ei.loc]; exact hm.keeps (kp_heap kp),
    quiet_ok i c ei wf.kind h hP (fun b o e => kp_heap kp b o (F1.top b o e)) (fun b hb => by rw [List.mem_singleton.mp hb]; exact not_g F1 fresh), fun D h' tk ys vs' hD hl hpl hlen hPv hF hn hk => ?_⟩
  · rw [sizeLine_eq, List.size_toArray, dx.length]; omega
  · rcases List.mem_cons.mp hb with z | z
    · rw [z]; exact Heap.lt_size new
    · rw [List.mem_singleton.mp z]
      obtain ⟨o, e, _⟩ := lx
      exact Heap.lt_size (kp_heap kp _ _ e)
  · rw [ei.loc]; intro z; exact not_L F1 fresh (List.mem_singleton.mp z).symm
  · rw [ei.loc] at hn hk
    have k3 : ∀ b o, b ≠ L → s₁.heap.get? b = some o → h'.get? b = some o := fun b o n e => hk b o n (fun z => by rw [List.mem_singleton.mp z, fresh] at e; cases e) (kp_heap kp b o e)
    have hD1 : s₁.heap.get? D = none := not_old (s := { s₁ with heap := s₁.heap.push { cls := .type "list_iterator", data := .fields #[.ref ax, .int 0 0] } }) kp hD
    rw [filter_true] at hF
    have dys : DenAll (fun _ => none) ys.toList rs := paired_den h (by rw [hlen, List.size_toArray, dx.length, ints_len has]) (fun j v hj => hP j v (hPv j v hj)) hF
    have lvO : Live (L :: (oa.toList ++ hid)) s₁.heap := F1.noOwn.liveL
    obtain ⟨oa', F2, ow⟩ := F1.putK (x := y) (u := .ref D) (v := .list rs) (h' := h') (fun m' hm' => by rw [ns_same hm hm']; exact hn) k3
      (Den.of_list (vs := ys.toList) (lvO.fresh hD1) (by simpa using hl) (dys.mono fun _ _ z => by cases z))
    refine ⟨oa', F2, kb_weak k (⟨h', tk, rfl, fun b o n e => k3 b o (fun z => n (by rw [z]; exact List.mem_singleton_self _)) e⟩ : KB [L] s₁ { s₁ with heap := h', toks := tk }), fun a e => .inl (ow a e)⟩
end
end Mine
end
/- HE -/
section
open PySem PySem.W PyProof.Rows
set_option Elab.async false
set_option linter.unusedVariables false
namespace Mine
set_option maxRecDepth 100000
set_option maxHeartbeats 0
abbrev pg : Program := PySem.Challenge.pw_op0206_01
noncomputable def denQ : Code → Sem PySem.Fin := PySem.W.Fast.tw11892475500146522536 PySem.W.Fast.tw14364793385576792824
noncomputable def topRunQ (p : Program) (w : World) (n₀ : Nat) (ann : Option Value) : Nat → SharedT → Thread → Option SharedT
  | 0, _, _ => none
  | n + 1, s, t => match through t with
    | true => some s
    | false => match PySem.W.Fast.tw6613529449190102663 n₀ ann t with
      | false => none
      | true => match PySem.W.Fast.tw10156331382660048174 denQ p w s t with
        | some (s', t') => topRunQ p w n₀ ann n s' t'
        | none => none
theorem topRunQ_eq {p : Program} {w : World} {n₀ : Nat} {ann : Option Value} : ∀ (n : Nat) (s : SharedT) (t : Thread), topRunT treeTable p w n₀ ann n s t = topRunQ p w n₀ ann n s t
  | 0, _, _ => rfl
  | n + 1, s, t => by
    unfold topRunT topRunQ denQ
    rw [← PySem.W.Fast.te6613529449190102663, ← PySem.W.Fast.te10156331382660048174, ← PySem.W.Fast.te11892475500146522536, ← PySem.W.Fast.te14364793385576792824]
    cases through t with
    | true => rfl
    | false =>
      dsimp only
      cases stepOk n₀ ann t with
      | false => rfl
      | true =>
        dsimp only
        cases stepT (denote treeTable) p w s t with
        | none => rfl
        | some r => exact topRunQ_eq n _ _
noncomputable def openQ (p : Program) (w : World) (N : Nat) : Option Shared :=
  match PySem.W.Fast.tw10274390034422433532 PySem.W.Fast.tw14364793385576792824 (opening p) w N (start (opening p)).1 (start (opening p)).2 with
  | none => none
  | some s => fenceModules? p s
theorem openQ_eq (p : Program) (w : World) (N : Nat) : fencedOpening treeTable p w N = openQ p w N := by
  unfold fencedOpening openQ
  rw [← PySem.W.Fast.te10274390034422433532, ← PySem.W.Fast.te14364793385576792824]
  cases importEnds treeTable (opening p) w N (start (opening p)).1 (start (opening p)).2 <;> rfl
noncomputable def endQ (p : Program) (w : World) (N M : Nat) : Option (SharedT × Shared) :=
  match openQ p w N with
  | none => none
  | some s₀ => match treeOf s₀.heap.objs.toList 0 .nil with
    | none => none
    | some T => match topRunQ p w s₀.heap.objs.size (s₀.heap.nsMap mainGlobals "__annotations__") M ⟨T, s₀.heap.objs.size, s₀.heap.life, s₀.gens, s₀.drawn, s₀.toks, s₀.os⟩ (topStub p) with
      | none => none
      | some s => some (s, s₀)
theorem endQ_eq (p : Program) (w : World) (N M : Nat) : endT p w N M = endQ p w N M := by
  unfold endT endQ
  rw [openQ_eq]
  cases openQ p w N with
  | none => rfl
  | some s₀ =>
    dsimp only
    cases treeOf s₀.heap.objs.toList 0 .nil with
    | none => rfl
    | some T =>
      dsimp only; rw [topRunQ_eq]
      all_goals (cases topRunQ p w s₀.heap.objs.size (s₀.heap.nsMap mainGlobals "__annotations__") M ⟨T, s₀.heap.objs.size, s₀.heap.life, s₀.gens, s₀.drawn, s₀.toks, s₀.os⟩ (topStub p) <;> rfl)
noncomputable def qv : Program := view pg [47]
noncomputable def looseL : List Str := [(Str.ofString "deque"), (Str.ofString "_wall"), (Str.ofString "__name__"), (Str.ofString "_whence"), (Str.ofString "_index"), (Str.ofString "UnsupportedOperation"), (Str.ofString "IOBase"), (Str.ofString "BufferedIOBase"), (Str.ofString "TextIOBase"), (Str.ofString "BytesIO"), (Str.ofString "StringIO"), (Str.ofString "_kind"), (Str.ofString "_fspath"), (Str.ofString "_check_arg_types"), (Str.ofString "isabs"), (Str.ofString "join"), (Str.ofString "dirname"), (Str.ofString "shlex"), (Str.ofString "split"), (Str.ofString "_buffer"), (Str.ofString "_truth"), (Str.ofString "_B64"), (Str.ofString "b2a_base64"), (Str.ofString "b64encode"), (Str.ofString "lt"), (Str.ofString "add"), (Str.ofString "and_"), (Str.ofString "floordiv"), (Str.ofString "lshift"), (Str.ofString "mod"), (Str.ofString "mul"), (Str.ofString "neg"), (Str.ofString "or_"), (Str.ofString "rshift"), (Str.ofString "sub"), (Str.ofString "_law_next"), (Str.ofString "_law_ways"), (Str.ofString "_law_number"), (Str.ofString "_law_row"), (Str.ofString "_law_line"), (Str.ofString "_law_told")]

structure FnRow where
  name : Str
  a : Nat
  df : Value
  kd : Value
  md : Str
  t : Nat
noncomputable def fnTab : List FnRow := [
  ⟨"_whence", 46, .none, .none, "io", 286⟩,
  ⟨"_index", 53, .none, .none, "io", 286⟩,
  ⟨"split", 734, .ref 727, .none, "cpy313.shlex", 1001⟩,
  ⟨"_buffer", 741, .none, .none, "binascii", 1152⟩,
  ⟨"_truth", 748, .none, .none, "binascii", 1152⟩,
  ⟨"b2a_base64", 756, .none, .ref 749, "binascii", 1152⟩,
  ⟨"b64encode", 764, .ref 757, .none, "cpy313.base64", 1186⟩,
  ⟨"lt", 771, .none, .none, "cpy313.operator", 1197⟩,
  ⟨"add", 778, .none, .none, "cpy313.operator", 1197⟩,
  ⟨"and_", 785, .none, .none, "cpy313.operator", 1197⟩,
  ⟨"floordiv", 792, .none, .none, "cpy313.operator", 1197⟩,
  ⟨"lshift", 799, .none, .none, "cpy313.operator", 1197⟩,
  ⟨"mod", 806, .none, .none, "cpy313.operator", 1197⟩,
  ⟨"mul", 813, .none, .none, "cpy313.operator", 1197⟩,
  ⟨"neg", 820, .none, .none, "cpy313.operator", 1197⟩,
  ⟨"or_", 827, .none, .none, "cpy313.operator", 1197⟩,
  ⟨"rshift", 834, .none, .none, "cpy313.operator", 1197⟩,
  ⟨"sub", 841, .none, .none, "cpy313.operator", 1197⟩,
  ⟨"_law_next", 848, .none, .none, "law_op0206_01", 1286⟩,
  ⟨"_law_ways", 855, .none, .none, "law_op0206_01", 1286⟩,
  ⟨"_law_number", 862, .none, .none, "law_op0206_01", 1286⟩,
  ⟨"_law_row", 869, .none, .none, "law_op0206_01", 1286⟩,
  ⟨"_law_line", 874, .none, .none, "law_op0206_01", 1286⟩,
  ⟨"_law_told", 881, .none, .none, "law_op0206_01", 1286⟩,
  ⟨"law", 886, .none, .none, "law_op0206_01", 1286⟩]
/-- a function's data, with its def's parts taken from the program -/
noncomputable def fdOf (e : FnRow) : FuncData := match pg.theDef e.name with
  | some (ps, b, sc) => { name := e.name, qualname := e.name, params := ps, body := .stmts b, scope := sc, globals := 3, closure := [], defaults := e.df, kwdefaults := e.kd, pyModule := .str e.md e.t, code := .ref (e.a - 1), builtins := 0 }
  | none => default
noncomputable def fnObj (e : FnRow) : Obj := { cls := .type "function", dict := none, data := .func (fdOf e), slots := #[] }
noncomputable def codeName (h : Heap) (c : Addr) : Option Str := match h.get? c with
  | some o => match o.data with
    | .fields vs => match (vs[1]? : Option Value) with
      | some (Value.str q _) => some q
      | _ => none
    | _ => none
  | none => none
noncomputable def bltNames : List (Str × Value) := [(Str.ofString "len", .builtin "len"), (Str.ofString "min", .builtin "min"), (Str.ofString "chr", .builtin "chr"), (Str.ofString "bytes", .type "bytes"), (Str.ofString "type", .type "type"), (Str.ofString "range", .type "range"), (Str.ofString "bool", .type "bool"), (Str.ofString "int", .type "int"), (Str.ofString "str", .type "str"), (Str.ofString "list", .type "list"), (Str.ofString "ValueError", .type "ValueError"), (Str.ofString "isinstance", .builtin "isinstance"), (Str.ofString "object", .type "object"), (Str.ofString "StopIteration", .type "StopIteration")]
noncomputable def b64Val : Option Value → Option (List UInt8)
  | some (.bytes b _) => some b.toList
  | _ => none
noncomputable def alphabet : List UInt8 := "ABCDEFGHIJKLMNOPQRSTUVWXYZabcdefghijklmnopqrstuvwxyz0123456789+/".toList.map fun c => c.toNat.toUInt8
/-- the objects of the classes that the walk reaches, as the top leaves them -/
structure MRow where
  cls : Str
  name : Str
  qual : Str
  a : Nat
  df : Value
  md : Str
  t : Nat
noncomputable def mTab : List MRow := [
  ⟨"IOBase", "__new__", "IOBase.__new__", 80, .none, "io", 286⟩,
  ⟨"StringIO", "__init__", "StringIO.__init__", 357, .ref 350, "io", 286⟩,
  ⟨"StringIO", "__translated", "StringIO.__translated", 364, .none, "io", 286⟩,
  ⟨"StringIO", "__check", "StringIO.__check", 371, .none, "io", 286⟩,
  ⟨"StringIO", "read", "StringIO.read", 533, .ref 526, "io", 286⟩,
  ⟨"shlex", "__init__", "shlex.__init__", 646, .ref 639, "cpy313.shlex", 1001⟩,
  ⟨"shlex", "punctuation_chars", "shlex.punctuation_chars", 653, .none, "cpy313.shlex", 1001⟩,
  ⟨"shlex", "get_token", "shlex.get_token", 683, .none, "cpy313.shlex", 1001⟩,
  ⟨"shlex", "read_token", "shlex.read_token", 690, .none, "cpy313.shlex", 1001⟩,
  ⟨"shlex", "__iter__", "shlex.__iter__", 712, .none, "cpy313.shlex", 1001⟩,
  ⟨"shlex", "__next__", "shlex.__next__", 719, .none, "cpy313.shlex", 1001⟩]
noncomputable def cmOf (p : Program) (c m : Str) : Option (Arguments × List Stmt × Scope) :=
  p.main.body.findSome? fun st => match st with
    | .ClassDef n _ _ body _ _ _ _ _ _ _ => if n == c then body.findSome? (fun st => match st with
        | .FunctionDef x ps b _ _ _ sc _ _ _ => if x == m then some (ps, b, sc) else none
        | _ => none) else none
    | _ => none
noncomputable def mfd (e : MRow) : FuncData := match cmOf pg e.cls e.name with
  | some (ps, b, sc) => { name := e.name, qualname := e.qual, params := ps, body := .stmts b, scope := sc, globals := 3, closure := [], defaults := e.df, kwdefaults := .none, pyModule := .str e.md e.t, code := .ref (e.a - 1), builtins := 0 }
  | none => default
noncomputable def mObj (e : MRow) : Obj := { cls := .type "function", dict := none, data := .func (mfd e), slots := #[] }
noncomputable def ent (w : World) (n : Str) (t : Tok) (v : Value) : DictEntry := ⟨PyData.keyHash w.params n, .str n t, v⟩
noncomputable def kFrag (w : World) : Frag := (mTab.map fun e => (e.a, mObj e)) ++ [
  (82, { cls := .type "dict", dict := none, slots := #[], data := .dict #[ent w "__module__" 333 (.str "io" 338), ent w "__firstlineno__" 337 (.int 20 336), ent w "__new__" 348 (.ref 84), ent w "__static_attributes__" 349 (.ref 81), ent w "__dict__" 352 (.ref 85), ent w "__weakref__" 354 (.ref 86), ent w "__doc__" 355 (.none)] 4 }),
  (83, { cls := .type "type", dict := none, slots := #[none, none, some (.str "IOBase" 326), some (.str "IOBase" 334), some (.none), some (.bool true)], data := .cls { name := "IOBase", bases := [.type "object"], mro := [.ref 83, .type "object"], ns := 82, qualname := "IOBase", hasDict := true, slotNames := [], subclasses := [.ref 98, .ref 110], abstract := false, collection := none, hasDel := false } }),
  (84, { cls := .type "staticmethod", dict := none, slots := #[], data := .fields #[.ref 80] }),
  (109, { cls := .type "dict", dict := none, slots := #[], data := .dict #[ent w "__module__" 383 (.str "io" 388), ent w "__firstlineno__" 387 (.int 29 386), ent w "__static_attributes__" 390 (.ref 108), ent w "__doc__" 391 (.none)] 2 }),
  (110, { cls := .type "type", dict := none, slots := #[some (.ref 101), none, some (.str "TextIOBase" 376), some (.str "TextIOBase" 384), some (.none), some (.bool true)], data := .cls { name := "TextIOBase", bases := [.ref 83], mro := [.ref 110, .ref 83, .type "object"], ns := 109, qualname := "TextIOBase", hasDict := true, slotNames := [], subclasses := [.ref 587], abstract := false, collection := none, hasDel := false } }),
  (340, { cls := .type "type", dict := none, slots := #[some (.ref 113), none, some (.str "BytesIO" 394), some (.str "BytesIO" 402), some (.none), some (.bool true)], data := .cls { name := "BytesIO", bases := [.ref 98], mro := [.ref 340, .ref 98, .ref 83, .type "object"], ns := 339, qualname := "BytesIO", hasDict := true, slotNames := [], subclasses := [], abstract := false, collection := none, hasDel := false } }),
  (586, { cls := .type "dict", dict := none, slots := #[], data := .dict #[ent w "__module__" 663 (.str "_io" 668), ent w "__firstlineno__" 667 (.int 201 666), ent w "__init__" 680 (.ref 357), ent w "_StringIO__translated" 689 (.ref 364), ent w "_StringIO__check" 696 (.ref 371), ent w "_StringIO__check_dot" 703 (.ref 378), ent w "_StringIO__line" 718 (.ref 385), ent w "closed" 726 (.ref 393), ent w "line_buffering" 734 (.ref 401), ent w "newlines" 742 (.ref 409), ent w "encoding" 750 (.ref 417), ent w "errors" 758 (.ref 425), ent w "close" 765 (.ref 432), ent w "__enter__" 772 (.ref 439), ent w "__exit__" 780 (.ref 446), ent w "readable" 787 (.ref 453), ent w "writable" 794 (.ref 460), ent w "seekable" 801 (.ref 467), ent w "isatty" 808 (.ref 474), ent w "flush" 815 (.ref 481), ent w "fileno" 822 (.ref 488), ent w "detach" 829 (.ref 495), ent w "getvalue" 836 (.ref 502), ent w "tell" 843 (.ref 509), ent w "seek" 853 (.ref 517), ent w "truncate" 861 (.ref 525), ent w "read" 873 (.ref 533), ent w "readline" 883 (.ref 541), ent w "readlines" 893 (.ref 549), ent w "__iter__" 900 (.ref 556), ent w "__next__" 908 (.ref 563), ent w "write" 920 (.ref 570), ent w "writelines" 928 (.ref 577), ent w "__repr__" 935 (.ref 584), ent w "__static_attributes__" 939 (.ref 585), ent w "__doc__" 940 (.none)] 2 }),
  (587, { cls := .type "type", dict := none, slots := #[some (.ref 343), none, some (.str "StringIO" 656), some (.str "StringIO" 664), some (.none), some (.bool true)], data := .cls { name := "StringIO", bases := [.ref 110], mro := [.ref 587, .ref 110, .ref 83, .type "object"], ns := 586, qualname := "StringIO", hasDict := true, slotNames := [], subclasses := [], abstract := false, collection := none, hasDel := false } }),
  (654, { cls := .type "property", dict := none, slots := #[], data := .fields #[.ref 653, .none, .none, .none, .str "punctuation_chars" 1034, .bool false] }),
  (721, { cls := .type "dict", dict := none, slots := #[], data := .dict #[ent w "__module__" 1010 (.str "cpy313.shlex" 1001), ent w "__firstlineno__" 1014 (.int 470 1013), ent w "__init__" 1026 (.ref 646), ent w "punctuation_chars" 1034 (.ref 654), ent w "push_token" 1042 (.ref 661), ent w "push_source" 1051 (.ref 669), ent w "pop_source" 1058 (.ref 676), ent w "get_token" 1070 (.ref 683), ent w "read_token" 1081 (.ref 690), ent w "sourcehook" 1089 (.ref 697), ent w "error_leader" 1098 (.ref 705), ent w "__iter__" 1105 (.ref 712), ent w "__next__" 1113 (.ref 719), ent w "__static_attributes__" 1134 (.ref 720), ent w "__dict__" 1136 (.ref 723), ent w "__weakref__" 1138 (.ref 724), ent w "__doc__" 1139 (.none)] 4 }),
  (722, { cls := .type "type", dict := none, slots := #[none, none, some (.str "shlex" 1003), some (.str "shlex" 1011), some (.builtin "object.__new__"), some (.bool true)], data := .cls { name := "shlex", bases := [.type "object"], mro := [.ref 722, .type "object"], ns := 721, qualname := "shlex", hasDict := true, slotNames := [], subclasses := [], abstract := false, collection := none, hasDel := false } }),
  (639, { cls := .type "tuple", dict := none, slots := #[], data := .seq #[.none, .none, .bool false, .bool false] 0 }), (350, { cls := .type "tuple", dict := none, slots := #[], data := .seq #[.str "" 670, .str "\n" 671] 0 }), (526, { cls := .type "tuple", dict := none, slots := #[], data := .seq #[.int (-1) 863] 0 }), (727, { cls := .type "tuple", dict := none, slots := #[], data := .seq #[.bool false, .bool true] 0 }), (757, { cls := .type "tuple", dict := none, slots := #[], data := .seq #[.none] 0 })]
noncomputable def kAddrs : List Addr := [80, 357, 364, 371, 533, 646, 653, 683, 690, 712, 719, 82, 83, 84, 109, 110, 340, 586, 587, 654, 721, 722, 639, 350, 526, 727, 757]
noncomputable def clsNames : List (Str × Value) := [(Str.ofString "StringIO", .ref 587), (Str.ofString "BytesIO", .ref 340), (Str.ofString "shlex", .ref 722), (Str.ofString "deque", .type "collections.deque")]
noncomputable def yf (s : Shared) := (fnTab.map fun e => s.heap.get? e.a, fnTab.map fun e => codeName s.heap (e.a - 1), fnTab.map fun e => s.heap.nsMap mainGlobals e.name,
  bltNames.map fun e => s.heap.nsMap mainGlobals e.1, bltNames.map fun e => s.heap.nsMap builtinsNs e.1, b64Val (s.heap.nsMap mainGlobals "_B64"), s.heap.isNs mainGlobals, s.heap.isNs builtinsNs,
  kAddrs.map fun a => s.heap.get? a, mTab.map fun e => codeName s.heap (e.a - 1), clsNames.map fun e => s.heap.nsMap mainGlobals e.1, s.heap.isNs cStatics, s.heap.nsMap cStatics "thirdparty.any")
noncomputable def ya (w : World) := (fnTab.map fun e => some (fnObj e), fnTab.map fun e => some e.name, fnTab.map fun e => some (Value.ref e.a),
  bltNames.map fun e => (none : Option Value), bltNames.map fun e => some e.2, some alphabet, true, true,
  (kFrag w).map fun p => some p.2, mTab.map fun e => some e.qual, clsNames.map fun e => some e.2, true, (none : Option Value))
noncomputable def xt (s : Shared) : Bool := recOk (RowW.records (PySem.Challenge.rw_op0206_01).row.toRowW) s
noncomputable def wholeQ (w : World) := (endQ pg w 6000 6000).map (looksT pg qv looseL xt yf)
theorem whole (w : World) : wholeQ w = some (true, true, openGood qv looseL, ya w) := by kernel_rfl
theorem left : LeftO pg qv looseL xt yf ya 6000 := left_of (Nat.le_refl _) fun w => by rw [endQ_eq]; exact whole w
end Mine
end
/- HG -/
section
open PySem PySem.W PyProof.Rows
set_option Elab.async false
set_option linter.unusedVariables false
namespace Mine
/-- what the top leaves, as far as the walk needs it -/
structure Found (w : World) (h : Heap) : Prop where
  fns : ∀ e ∈ fnTab, h.get? e.a = some (fnObj e)
  codes : ∀ e ∈ fnTab, h.CodeRec (.ref (e.a - 1)) e.name
  names : ∃ m mb, h.Ns mainGlobals m ∧ h.Ns builtinsNs mb ∧ (∀ e ∈ fnTab, m e.name = some (.ref e.a)) ∧ (∀ e ∈ bltNames, m e.1 = none ∧ mb e.1 = some e.2) ∧ (∃ b t, m "_B64" = some (.bytes b t) ∧ b.toList = alphabet) ∧ ∀ e ∈ clsNames, m e.1 = some e.2
  frag : (kFrag w).In h
  statics : ∃ m, h.Ns cStatics m ∧ m "thirdparty.any" = none
  mcodes : ∀ e ∈ mTab, h.CodeRec (.ref (e.a - 1)) e.qual
theorem codeRec_of {h : Heap} {c : Addr} {q : Str} (e : codeName h c = some q) : h.CodeRec (.ref c) q := by
  unfold codeName at e
  split at e
  · rename_i o ho
    split at e
    · rename_i vs hv
      split at e
      · rename_i q' t hq
        cases e
        exact ⟨c, o, vs, t, rfl, ho, hv, hq⟩
      · cases e
    · cases e
  · cases e
theorem found_of {w : World} {s : Shared} (e : yf s = ya w) : Found w s.heap := by
  unfold yf ya at e
  simp only [Prod.mk.injEq] at e
  obtain ⟨e1, e2, e3, e4, e5, e6, e7, e8, e9, e10, e11, e12, e13⟩ := e
  refine ⟨fun x hx => List.map_inj_left.mp e1 x hx, fun x hx => codeRec_of (List.map_inj_left.mp e2 x hx), ⟨_, _, .of_isNs e7, .of_isNs e8, fun x hx => List.map_inj_left.mp e3 x hx,
    fun x hx => ⟨List.map_inj_left.mp e4 x hx, List.map_inj_left.mp e5 x hx⟩, ?_, fun x hx => List.map_inj_left.mp e11 x hx⟩, Frag.in_of (by kernel_rfl) e9, ⟨_, .of_isNs e12, e13⟩, fun x hx => codeRec_of (List.map_inj_left.mp e10 x hx)⟩
  unfold b64Val at e6
  split at e6
  · rename_i b t hb
    exact ⟨b, t, hb, Option.some.inj e6⟩
  · cases e6
theorem Found.keeps {w : World} {h h' : Heap} (x : Found w h) (k : ∀ b o, h.get? b = some o → h'.get? b = some o) : Found w h' := by
  obtain ⟨m, mb, n1, n2, n3⟩ := x.names
  exact ⟨fun e he => k _ _ (x.fns e he), fun e he => (x.codes e he).keeps k, ⟨m, mb, n1.keeps k, n2.keeps k, n3⟩, x.frag.keeps k, (let ⟨m, a, b⟩ := x.statics; ⟨m, a.keeps k, b⟩), fun e he => (x.mcodes e he).keeps k⟩
/-- the table of the functions that are interpreted -/
noncomputable def fnNames : List Str := [(Str.ofString "_buffer"), (Str.ofString "_truth"), (Str.ofString "lt"), (Str.ofString "add"), (Str.ofString "and_"), (Str.ofString "floordiv"), (Str.ofString "lshift"), (Str.ofString "mod"), (Str.ofString "mul"), (Str.ofString "neg"), (Str.ofString "or_"), (Str.ofString "rshift"), (Str.ofString "sub"),
  (Str.ofString "_law_next"), (Str.ofString "_law_ways")]
noncomputable def fnOf (e : FnRow) : Fn := ⟨e.a, fdOf e, (fdOf e).params.args.map (·.arg), match (fdOf e).body with | .stmts b => b | _ => []⟩
noncomputable def valTab : List (Str × AV) := [(Str.ofString "_B64", .bytes alphabet), (Str.ofString "bytes", .typ "bytes"), (Str.ofString "bool", .typ "bool"), (Str.ofString "int", .typ "int")]
noncomputable def tabW (nat : Str → Option (Addr × (List AV → Option AV))) : Tab where
  fn x := if fnNames.contains x then (fnTab.find? fun e => e.name == x).map fnOf else none
  val x := valTab.lookup x
  nat := nat
end Mine
end
/- HH -/
section
open PySem PySem.W PyProof.Rows
set_option Elab.async false
set_option linter.unusedVariables false
namespace Mine
set_option maxRecDepth 100000
noncomputable def rowAt (i : Nat) : FnRow := fnTab.getD i ⟨"", 0, .none, .none, "", 0⟩
noncomputable def idxI : List Nat := [3, 4, 7, 8, 9, 10, 11, 12, 13, 14, 15, 16, 17, 18, 19]
noncomputable def rowsI : List FnRow := fnTab.filter fun e => fnNames.contains e.name
theorem rowsI_eq : rowsI = idxI.map rowAt := by kernel_rfl
/-- what is looked at once for each function -/
noncomputable def wfB (e : FnRow) : Bool :=
  (match (fdOf e).body with | .stmts _ => true | _ => false) && (fdOf e).scope.names.all (fun x => x.2 != .cell) && (fnOf e).ps.all (fun p => (fdOf e).scope.names.lookup p == some .local)
  && !(fdOf e).scope.isCoroutine && !(fdOf e).scope.isGenerator && (fdOf e).scope.kind == .function && (fdOf e).globals == mainGlobals && (fdOf e).builtins == builtinsNs && decide (fnOf e).ps.Nodup && (fdOf e).code == .ref (e.a - 1) && (fdOf e).qualname == e.name
theorem allB : rowsI.all wfB = true := by decide +kernel
theorem bd3 (a : Value) : bindArgs (fdOf (rowAt 3)) ⟨[a], []⟩ = pure ((fnOf (rowAt 3)).ps.zip [a]) := by kernel_rfl
theorem bl3 : (fnOf (rowAt 3)).ps.length = 1 := by kernel_rfl
theorem bd4 (a : Value) : bindArgs (fdOf (rowAt 4)) ⟨[a], []⟩ = pure ((fnOf (rowAt 4)).ps.zip [a]) := by kernel_rfl
theorem bl4 : (fnOf (rowAt 4)).ps.length = 1 := by kernel_rfl
theorem bd7 (a b : Value) : bindArgs (fdOf (rowAt 7)) ⟨[a, b], []⟩ = pure ((fnOf (rowAt 7)).ps.zip [a, b]) := by kernel_rfl
theorem bl7 : (fnOf (rowAt 7)).ps.length = 2 := by kernel_rfl
theorem bd8 (a b : Value) : bindArgs (fdOf (rowAt 8)) ⟨[a, b], []⟩ = pure ((fnOf (rowAt 8)).ps.zip [a, b]) := by kernel_rfl
theorem bl8 : (fnOf (rowAt 8)).ps.length = 2 := by kernel_rfl
theorem bd9 (a b : Value) : bindArgs (fdOf (rowAt 9)) ⟨[a, b], []⟩ = pure ((fnOf (rowAt 9)).ps.zip [a, b]) := by kernel_rfl
theorem bl9 : (fnOf (rowAt 9)).ps.length = 2 := by kernel_rfl
theorem bd10 (a b : Value) : bindArgs (fdOf (rowAt 10)) ⟨[a, b], []⟩ = pure ((fnOf (rowAt 10)).ps.zip [a, b]) := by kernel_rfl
theorem bl10 : (fnOf (rowAt 10)).ps.length = 2 := by kernel_rfl
theorem bd11 (a b : Value) : bindArgs (fdOf (rowAt 11)) ⟨[a, b], []⟩ = pure ((fnOf (rowAt 11)).ps.zip [a, b]) := by kernel_rfl
theorem bl11 : (fnOf (rowAt 11)).ps.length = 2 := by kernel_rfl
theorem bd12 (a b : Value) : bindArgs (fdOf (rowAt 12)) ⟨[a, b], []⟩ = pure ((fnOf (rowAt 12)).ps.zip [a, b]) := by kernel_rfl
theorem bl12 : (fnOf (rowAt 12)).ps.length = 2 := by kernel_rfl
theorem bd13 (a b : Value) : bindArgs (fdOf (rowAt 13)) ⟨[a, b], []⟩ = pure ((fnOf (rowAt 13)).ps.zip [a, b]) := by kernel_rfl
theorem bl13 : (fnOf (rowAt 13)).ps.length = 2 := by kernel_rfl
theorem bd14 (a : Value) : bindArgs (fdOf (rowAt 14)) ⟨[a], []⟩ = pure ((fnOf (rowAt 14)).ps.zip [a]) := by kernel_rfl
theorem bl14 : (fnOf (rowAt 14)).ps.length = 1 := by kernel_rfl
theorem bd15 (a b : Value) : bindArgs (fdOf (rowAt 15)) ⟨[a, b], []⟩ = pure ((fnOf (rowAt 15)).ps.zip [a, b]) := by kernel_rfl
theorem bl15 : (fnOf (rowAt 15)).ps.length = 2 := by kernel_rfl
theorem bd16 (a b : Value) : bindArgs (fdOf (rowAt 16)) ⟨[a, b], []⟩ = pure ((fnOf (rowAt 16)).ps.zip [a, b]) := by kernel_rfl
theorem bl16 : (fnOf (rowAt 16)).ps.length = 2 := by kernel_rfl
theorem bd17 (a b : Value) : bindArgs (fdOf (rowAt 17)) ⟨[a, b], []⟩ = pure ((fnOf (rowAt 17)).ps.zip [a, b]) := by kernel_rfl
theorem bl17 : (fnOf (rowAt 17)).ps.length = 2 := by kernel_rfl
theorem bd18 (a b : Value) : bindArgs (fdOf (rowAt 18)) ⟨[a, b], []⟩ = pure ((fnOf (rowAt 18)).ps.zip [a, b]) := by kernel_rfl
theorem bl18 : (fnOf (rowAt 18)).ps.length = 2 := by kernel_rfl
theorem bd19 (a b : Value) : bindArgs (fdOf (rowAt 19)) ⟨[a, b], []⟩ = pure ((fnOf (rowAt 19)).ps.zip [a, b]) := by kernel_rfl
theorem bl19 : (fnOf (rowAt 19)).ps.length = 2 := by kernel_rfl
noncomputable def BindOk (e : FnRow) : Prop := ∀ args : List Value, args.length = (fnOf e).ps.length → bindArgs (fdOf e) ⟨args, []⟩ = pure ((fnOf e).ps.zip args)
theorem bind1 {e : FnRow} (l : (fnOf e).ps.length = 1) (h : ∀ a, bindArgs (fdOf e) ⟨[a], []⟩ = pure ((fnOf e).ps.zip [a])) : BindOk e := fun args ha => by
  obtain ⟨a, r, rfl, hr⟩ := len_succ (ha.trans l)
  cases len_0 hr
  exact h a
theorem bind2 {e : FnRow} (l : (fnOf e).ps.length = 2) (h : ∀ a b, bindArgs (fdOf e) ⟨[a, b], []⟩ = pure ((fnOf e).ps.zip [a, b])) : BindOk e := fun args ha => by
  obtain ⟨a, r, rfl, hr⟩ := len_succ (ha.trans l)
  obtain ⟨b, q, rfl, hq⟩ := len_succ hr
  cases len_0 hq
  exact h a b
theorem bindAll : ∀ i ∈ idxI, BindOk (rowAt i) := by
  simp only [idxI, List.forall_mem_cons]
  exact ⟨bind1 bl3 bd3, bind1 bl4 bd4, bind2 bl7 bd7, bind2 bl8 bd8, bind2 bl9 bd9, bind2 bl10 bd10, bind2 bl11 bd11, bind2 bl12 bd12, bind2 bl13 bd13, bind1 bl14 bd14, bind2 bl15 bd15, bind2 bl16 bd16, bind2 bl17 bd17, bind2 bl18 bd18, bind2 bl19 bd19, fun _ h => absurd h List.not_mem_nil⟩
theorem fnWf {e : FnRow} (he : e ∈ rowsI) : FnWf (fnOf e) := by
  have hb : BindOk e := by
    have h := he
    rw [rowsI_eq] at h
    obtain ⟨i, hi, rfl⟩ := List.mem_map.mp h
    exact bindAll i hi
  have w := List.all_eq_true.mp allB e he
  simp only [wfB, Bool.and_eq_true, Bool.not_eq_true', beq_iff_eq, decide_eq_true_eq] at w
  obtain ⟨⟨⟨⟨⟨⟨⟨⟨⟨⟨w1, w2⟩, w3⟩, w4⟩, w5⟩, w6⟩, w7⟩, w8⟩, w9⟩, w10⟩, w11⟩ := w
  refine ⟨?_, hb, fun x hx => ?_, fun p hp => ?_, w4, w5, w6, w7, w8, w9⟩
  · show (fdOf e).body = .stmts (match (fdOf e).body with | .stmts b => b | _ => [])
    cases h : (fdOf e).body with
    | stmts b => rfl
    | _ => rw [h] at w1; cases w1
  · have := List.all_eq_true.mp w2 x hx
    simpa using this
  · have := List.all_eq_true.mp w3 p hp
    exact eq_of_beq this
/-- the row of a name in the table -/
theorem fn_row {nat : Str → Option (Addr × (List AV → Option AV))} {x : Str} {F : Fn} (h : (tabW nat).fn x = some F) : ∃ e ∈ rowsI, F = fnOf e ∧ e.name = x ∧ x ∈ fnNames := by
  simp only [tabW] at h
  split at h
  · rename_i hx
    obtain ⟨e, he, rfl⟩ := Option.map_eq_some_iff.mp h
    have h1 := List.mem_of_find?_eq_some he
    have h2' : (e.name == x) = true := List.find?_some (p := fun e : FnRow => e.name == x) he
    have h2 := eq_of_beq h2'
    exact ⟨e, List.mem_filter.mpr ⟨h1, by rw [h2]; exact hx⟩, rfl, h2, List.contains_iff_mem.mp hx⟩
  · cases h
theorem blt_in {x : Str} {u : Value} (h : bltVal x = some u) : (x, u) ∈ bltNames := by
  unfold bltVal at h
  repeat' split at h
  all_goals first | (rename_i q; cases h; subst q; simp [bltNames]) | cases h
theorem topIs {nat : Str → Option (Addr × (List AV → Option AV))} {w : World} {g : Heap} (Fd : Found w g) (lim : g.NoLimit) : TopIs (tabW nat) g := by
  obtain ⟨m, mb, n1, n2, n3, n4, ⟨b, t, n5, n6⟩, _⟩ := Fd.names
  refine ⟨⟨m, mb, n1, n2, fun x F h => ?_, fun x v h => ?_, fun x u h _ _ _ => n4 (x, u) (blt_in h)⟩, lim, fun x F h => ?_, fun x h => ?_⟩
  · obtain ⟨e, he, rfl, rfl, _⟩ := fn_row h
    exact n3 e (List.mem_filter.mp he).1
  · have hb := fun u (hu : (x, Value.type u) ∈ bltNames) => n4 _ hu
    simp only [tabW, valTab, List.lookup] at h
    split at h
    · rename_i q; cases h; rw [eq_of_beq q]; exact ⟨_, n6 ▸ Den.bytes b t, .inl n5⟩
    · split at h
      · rename_i q; cases h; exact ⟨_, .typ _, .inr (hb "bytes" (by rw [eq_of_beq q]; simp [bltNames]))⟩
      · split at h
        · rename_i q; cases h; exact ⟨_, .typ _, .inr (hb "bool" (by rw [eq_of_beq q]; simp [bltNames]))⟩
        · split at h
          · rename_i q; cases h; exact ⟨_, .typ _, .inr (hb "int" (by rw [eq_of_beq q]; simp [bltNames]))⟩
          · cases h
  · obtain ⟨e, he, rfl, rfl, _⟩ := fn_row h
    have w := List.all_eq_true.mp allB e he
    simp only [wfB, Bool.and_eq_true, Bool.not_eq_true', beq_iff_eq, decide_eq_true_eq] at w
    obtain ⟨⟨_, w10⟩, w11⟩ := w
    refine ⟨fnWf he, ⟨_, Fd.fns e (List.mem_filter.mp he).1, rfl⟩, ?_⟩
    show g.CodeRec (fdOf e).code (fdOf e).qualname
    rw [w10, w11]
    exact Fd.codes e (List.mem_filter.mp he).1
  · rcases h with h | h
    · obtain ⟨F, hF⟩ := Option.isSome_iff_exists.mp h
      obtain ⟨e, he, rfl, rfl, hx⟩ := fn_row hF
      have : fnNames.all (fun x => !(x == ("__debug__" : Str))) = true := by decide +kernel
      simpa using List.all_eq_true.mp this _ hx
    · have : ∀ x, (valTab.lookup x).isSome = true → (x == ("__debug__" : Str)) = false := by
        intro x hx
        simp only [valTab, List.lookup] at hx
        split at hx
        · rename_i q; rw [eq_of_beq q]; decide +kernel
        · split at hx
          · rename_i q; rw [eq_of_beq q]; decide +kernel
          · split at hx
            · rename_i q; rw [eq_of_beq q]; decide +kernel
            · split at hx
              · rename_i q; rw [eq_of_beq q]; decide +kernel
              · cases hx
      exact this x h
end Mine
end
/- R1 -/
section
open PySem PySem.W PyProof.Rows
set_option Elab.async false
set_option linter.unusedVariables false
set_option linter.unusedSimpArgs false
namespace Mine
namespace Qt
/-- a run along given answers: what is needed, what was asked and looked at -/
noncomputable def goT {α : Type} : Qt α → List Bool → List Int → List Str → Option ((Bool × List Bool) × List (Option Int) × List (Option Str) × α)
  | fail, _, _, _ => none
  | done a, _, _, _ => some ((true, []), [], [], a)
  | ask c t e, bs, is, ss => (match bs with
    | [] => none
    | b :: bs => (cond b (goT t bs is ss) (goT e bs is ss)).map fun r => ((r.1.1, c :: r.1.2), r.2))
  | need c t, bs, is, ss => (goT t bs is ss).map fun r => ((c && r.1.1, r.1.2), r.2)
  | look o k, bs, is, ss => (match is with
    | [] => none
    | i :: is => (goT (k i) bs is ss).map fun r => (r.1, o :: r.2.1, r.2.2))
  | lookS o k, bs, is, ss => (match ss with
    | [] => none
    | i :: ss => (goT (k i) bs is ss).map fun r => (r.1, r.2.1, o :: r.2.2.1, r.2.2.2))
noncomputable def go {α : Type} (bs : List Bool) (is : List Int) (ss : List Str) (t : Qt α) : Option ((Bool × List Bool) × List (Option Int) × List (Option Str) × α) := goT t bs is ss
theorem omap {α β : Type} {o : Option α} {f : α → β} {b : β} (h : o.map f = some b) : ∃ a, o = some a ∧ b = f a := by
  cases o with
  | none => cases h
  | some a => cases h; exact ⟨a, rfl, rfl⟩
theorem goT_val {α : Type} (t : Qt α) : ∀ (bs : List Bool) (is : List Int) (ss : List Str) (r : (Bool × List Bool) × List (Option Int) × List (Option Str) × α), goT t bs is ss = some r → r.1.1 = true → r.1.2 = bs → r.2.1 = is.map some → r.2.2.1 = ss.map some → t.val = some r.2.2.2 := by
  induction t with
  | fail => intro bs is ss r h; cases h
  | done a => intro bs is ss r h _ _ _ _; cases h; rfl
  | ask c t e it ie =>
    intro bs is ss r h hn hc ho hp
    cases bs with
    | nil => cases h
    | cons b bs =>
      obtain ⟨r', h1, rfl⟩ := omap h
      obtain ⟨h2, h3⟩ := List.cons.inj hc
      have h2 : c = b := h2
      subst h2
      cases c with
      | true => exact it bs is ss r' h1 hn h3 ho hp
      | false => exact ie bs is ss r' h1 hn h3 ho hp
  | need c t it =>
    intro bs is ss r h hn hc ho hp
    obtain ⟨r', h1, rfl⟩ := omap h
    obtain ⟨rfl, hn⟩ := Bool.and_eq_true_iff.mp hn
    exact it bs is ss r' h1 hn hc ho hp
  | look o k ik =>
    intro bs is ss r h hn hc ho hp
    cases is with
    | nil => cases h
    | cons i is =>
      obtain ⟨r', h1, rfl⟩ := omap h
      obtain ⟨h2, h3⟩ := List.cons.inj ho
      have h2 : o = some i := h2
      subst h2
      exact ik i bs is ss r' h1 hn hc h3 hp
  | lookS o k ik =>
    intro bs is ss r h hn hc ho hp
    cases ss with
    | nil => cases h
    | cons i ss =>
      obtain ⟨r', h1, rfl⟩ := omap h
      obtain ⟨h2, h3⟩ := List.cons.inj hp
      have h2 : o = some i := h2
      subst h2
      exact ik i bs is ss r' h1 hn hc ho h3
theorem go_val {α : Type} (t : Qt α) (bs : List Bool) (is : List Int) (ss : List Str) {n : Bool} {cs : List Bool} {os : List (Option Int)} {ps : List (Option Str)} {a : α} (h : go bs is ss t = some ((n, cs), os, ps, a))
    (hn : n = true) (hc : cs = bs) (ho : os = is.map some) (hp : ps = ss.map some) : t.val = some a := goT_val t bs is ss _ h hn hc ho hp
end Qt
theorem Sub.of_nil {f : FS} (h : f.o = none) : Sub ⟨[], none⟩ f := by
  refine ⟨fun x v e => ?_, h⟩
  cases e
theorem Sub.of_cons {f : FS} {y : Str} {u : AV} {l : List (Str × AV)} {o : Option (Str × List AV)} (h : f.l.lookup y = some u) (s : Sub ⟨l, o⟩ f) : Sub ⟨(y, u) :: l, o⟩ f := by
  refine ⟨fun x v e => ?_, s.o⟩
  have e : ((y, u) :: l).lookup x = some v := e
  rw [List.lookup_cons] at e
  cases q : x == y with
  | true => rw [q] at e; cases e; rw [eq_of_beq q]; exact h
  | false => rw [q] at e; exact s.l x v e
theorem call_go {T : Tab} {n : Nat} {F : Fn} {xs : List AV} {bs : List Bool} {is : List Int} {ss : List Str} {nd : Bool} {cs : List Bool} {os : List (Option Int)} {ps : List (Option Str)} {r : AV} (h : Qt.go bs is ss (callT T n F xs .done) = some ((nd, cs), os, ps, r))
    (hn : nd = true) (hc : cs = bs) (ho : os = is.map some) (hp : ps = ss.map some) : callF T n F xs = some r := Qt.go_val _ _ _ _ h hn hc ho hp
theorem exs_go {T : Tab} {sc : Scope} {n : Nat} {b : List Stmt} {g : FS} {bs : List Bool} {is : List Int} {ss : List Str} {nd : Bool} {cs : List Bool} {os : List (Option Int)} {ps : List (Option Str)} {r : Out} (h : Qt.go bs is ss (exsT T sc n b g .done) = some ((nd, cs), os, ps, r))
    (hn : nd = true) (hc : cs = bs) (ho : os = is.map some) (hp : ps = ss.map some) : exs T sc n b g = some r := Qt.go_val _ _ _ _ h hn hc ho hp
theorem ev_go {T : Tab} {sc : Scope} {n : Nat} {e : Expr} {g : FS} {bs : List Bool} {is : List Int} {ss : List Str} {nd : Bool} {cs : List Bool} {os : List (Option Int)} {ps : List (Option Str)} {r : AV} (h : Qt.go bs is ss (evT T sc n e g .done) = some ((nd, cs), os, ps, r))
    (hn : nd = true) (hc : cs = bs) (ho : os = is.map some) (hp : ps = ss.map some) : ev T sc n e g = some r := Qt.go_val _ _ _ _ h hn hc ho hp
end Mine
end
/- S1 -/
section
open PySem PySem.W PyProof.Rows PySem.Calls
set_option Elab.async false
set_option linter.unusedVariables false
namespace Mine

/-- the abstract values of the part with objects; a text bears a bound of its length -/
inductive OV where
  | none
  | bool (b : Bool)
  | int (i : Int)
  | str (x : Str) (n : Nat)
  | typ (n : String)
  | ref (a : Addr)
  | lex
  | strm
  | dq

/-- where the objects lie -/
structure Ad where
  x : Addr
  dx : Addr
  y : Addr
  dy : Addr
  dq : Addr → Prop

inductive DenO (ad : Ad) : Value → OV → Prop where
  | none : DenO ad .none .none
  | bool (b : Bool) : DenO ad (.bool b) (.bool b)
  | int (i : Int) (t : Tok) : DenO ad (.int i t) (.int i)
  | str {x : Str} {t : Tok} {n : Nat} (h : x.length ≤ n) : DenO ad (.str x t) (.str x n)
  | typ (n : String) : DenO ad (.type n) (.typ n)
  | ref (a : Addr) : DenO ad (.ref a) (.ref a)
  | lex : DenO ad (.ref ad.x) .lex
  | strm : DenO ad (.ref ad.y) .strm
  | dq {a : Addr} (h : ad.dq a) : DenO ad (.ref a) .dq

inductive DenOs (ad : Ad) : List Value → List OV → Prop where
  | nil : DenOs ad [] []
  | cons {v : Value} {x : OV} {vs : List Value} {xs : List OV} (h : DenO ad v x) (hs : DenOs ad vs xs) : DenOs ad (v :: vs) (x :: xs)
theorem DenOs.length {ad : Ad} {vs : List Value} {xs : List OV} (h : DenOs ad vs xs) : vs.length = xs.length := by
  induction h with
  | nil => rfl
  | cons _ _ ih => exact congrArg (· + 1) ih

abbrev Attrs := List (Str × OV)
/-- an attribute is put where it stands, or behind -/
noncomputable def putA (n : Str) (v : OV) : Attrs → Attrs
  | [] => [(n, v)]
  | (m, u) :: r => if n == m then (m, v) :: r else (m, u) :: putA n v r

structure OS where
  l : Attrs
  a : Attrs
  b : Option Attrs

inductive OOut where
  | next (st : OS)
  | brk (st : OS)
  | cont (st : OS)
  | ret (v : OV) (st : OS)
  | exc (cls : String) (args : List OV)
inductive ORes where
  | ret (v : OV) (a : Attrs) (b : Option Attrs)
  | exc (cls : String) (args : List OV)

structure OTab where
  glob : Str → Option OV
  fn : Str → Option Fn
  lex : Str → Option Fn
  strm : Str → Option Fn

noncomputable def lexAttrs : List Str := [(Str.ofString "instream"), (Str.ofString "infile"), (Str.ofString "posix"), (Str.ofString "eof"), (Str.ofString "commenters"), (Str.ofString "wordchars"), (Str.ofString "whitespace"), (Str.ofString "whitespace_split"),
  (Str.ofString "quotes"), (Str.ofString "escape"), (Str.ofString "escapedquotes"), (Str.ofString "state"), (Str.ofString "pushback"), (Str.ofString "lineno"), (Str.ofString "debug"), (Str.ofString "token"), (Str.ofString "filestack"),
  (Str.ofString "source"), (Str.ofString "_punctuation_chars")]
noncomputable def strmAttrs : List Str := [(Str.ofString "_StringIO__newline"), (Str.ofString "_StringIO__buf"), (Str.ofString "_StringIO__pos")]
noncomputable def propName : Str := Str.ofString "punctuation_chars"
noncomputable def propAttr : Str := Str.ofString "_punctuation_chars"

noncomputable def strN : OV → Option (Str × Nat)
  | .str x n => some (x, n)
  | _ => none
theorem strN_ok {a : OV} {p : Str × Nat} (h : strN a = some p) : a = .str p.1 p.2 := by
  cases a <;> cases h; rfl
noncomputable def intO : OV → Option Int
  | .int i => some i
  | _ => none
theorem intO_ok {a : OV} {i : Int} (h : intO a = some i) : a = .int i := by
  cases a <;> cases h; rfl
noncomputable def typO : OV → Option String
  | .typ i => some i
  | _ => none
theorem typO_ok {a : OV} {i : String} (h : typO a = some i) : a = .typ i := by
  cases a <;> cases h; rfl

noncomputable def attrO (st : OS) (o : OV) (n : Str) : Option OV := match o with
  | .lex => if (n == propName) = true then st.a.lookup propAttr else if lexAttrs.contains n = true then st.a.lookup n else none
  | .strm => if strmAttrs.contains n = true then st.b.bind fun b => b.lookup n else none
  | _ => none

noncomputable def constO : Const → Option OV
  | .none => some .none
  | .bool b => some (.bool b)
  | .int i => some (.int i)
  | .str s => some (.str s s.length)
  | _ => none

noncomputable def isNoneO : OV → Bool
  | .none => true
  | _ => false
noncomputable def isO (a b : OV) : Option Bool := match b with
  | .none => some (isNoneO a)
  | .typ y => (typO a).bind fun x => some (x == y)
  | _ => none
noncomputable def txO (a b : OV) (k : Str → Str → Bool) : Option Bool := (strN a).bind fun x => (strN b).bind fun y => some (k x.1 y.1)
noncomputable def inO (a b : OV) (k : Int → Int → Bool) : Option Bool := (intO a).bind fun x => (intO b).bind fun y => some (k x y)
noncomputable def eqO (a b : OV) : Option Bool := match b with
  | .none => (match a with
    | .none => some true
    | .str _ _ => some false
    | _ => none)
  | _ => txO a b fun x y => x == y

noncomputable def cmpO (op : CmpOp) (a b : OV) : Option Bool := match op with
  | .Is => isO a b
  | .IsNot => (isO a b).bind fun c => some (!c)
  | .Eq => eqO a b
  | .NotEq => txO a b fun x y => x != y
  | .In => txO a b fun x y => Txt.contains y x
  | .NotIn => txO a b fun x y => !Txt.contains y x
  | .Lt => inO a b fun x y => decide (x < y)
  | .LtE => inO a b fun x y => decide (x ≤ y)
  | .Gt => inO a b fun x y => decide (x > y)
  | .GtE => inO a b fun x y => decide (x ≥ y)

noncomputable def truthO : OV → Option Bool
  | .none => some false
  | .bool b => some b
  | .int i => some (i != 0)
  | .str x n => if n ≤ 1048576 then some (x.length != 0) else none
  | .dq => some false
  | _ => none

noncomputable def binO (op : Operator) (a b : OV) : Option OV := if isAdd op = true then (match a with
  | .int i => (intO b).bind fun j => some (.int (i + j))
  | .str x n => (strN b).bind fun y => if n + y.2 ≤ 1048576 then some (.str (x ++ y.1) (n + y.2)) else none
  | _ => none) else none

noncomputable def typeO : OV → Option String
  | .bool _ => some "bool"
  | .int _ => some "int"
  | .str _ _ => some "str"
  | _ => none
/-- a built-in, called -/
noncomputable def bltO (f a : OV) : Option OV := (typO f).bind fun n => if n = "type" then (typeO a).bind fun t => some (.typ t) else if n = "int" then (intO a).bind fun i => some (.int i) else none
noncomputable def cutO (x : Str) (n : Nat) (i j : Int) : Option OV :=
  if n ≤ 1048576 then some (.str (Txt.slice x (some i) (some j)) n) else none

noncomputable def strK : Const → Option Str
  | .str s => some s
  | _ => none
theorem strK_ok {c : Const} {x : Str} (h : strK c = some x) : c = .str x := by
  cases c <;> cases h; rfl
noncomputable def constOf : Expr → Option Const
  | .Constant c _ _ => some c
  | _ => none
theorem constOf_ok {e : Expr} {c : Const} (h : constOf e = some c) : ∃ k p, e = .Constant c k p :=
  onSome.ok (o := constOf e) (p := fun c => ∃ k p, e = .Constant c k p) (by cases e with
    | Constant c k p => exact ⟨k, p, rfl⟩
    | _ => exact trivial) h
noncomputable def constStr (e : Expr) : Option Str := (constOf e).bind strK
theorem constStr_ok {e : Expr} {x : Str} (h : constStr e = some x) : ∃ k p, e = .Constant (.str x) k p := by
  obtain ⟨c, h1, h⟩ := obind h
  obtain ⟨k, p, rfl⟩ := constOf_ok h1
  exact ⟨k, p, by rw [strK_ok h]⟩
noncomputable def strCall (e : Expr) : Option (Str × Str) := (callOf e).bind fun c => (nameOf c.1).bind fun x => (one c.2.1).bind fun a => (constStr a).bind fun m => if c.2.2.1.isEmpty = true then some (x, m) else none
theorem strCall_ok {e : Expr} {q : Str × Str} (h : strCall e = some q) : ∃ px k p cp, e = .Call (.Name q.1 px) [.Constant (.str q.2) k p] [] cp := by
  obtain ⟨⟨fn, args, kws, cp⟩, h1, h⟩ := obind h
  obtain ⟨x, h2, h⟩ := obind h
  obtain ⟨a, h3, h⟩ := obind h
  obtain ⟨m, h4, h⟩ := obind h
  obtain ⟨h5, h⟩ := oif h
  cases h
  obtain ⟨px, e2⟩ := nameOf_ok h2
  obtain ⟨k, p, e4⟩ := constStr_ok h4
  exact ⟨px, k, p, cp, (callOf_ok h1).trans (by rw [show fn = _ from e2, one_ok h3, e4, isEmpty_ok h5])⟩
noncomputable def constStrs : List Expr → Option (List Str)
  | [] => some []
  | e :: r => (constStr e).bind fun x => (constStrs r).bind fun xs => some (x :: xs)
noncomputable def tupEs : Expr → Option (List Expr)
  | .Tuple es _ _ => some es
  | _ => none
noncomputable def tupOf (e : Expr) : Option (List Str) := (tupEs e).bind constStrs
/-- a slice with both ends and no step -/
noncomputable def slice2 (e : Expr) : Option (Expr × Expr) := (sliceOf e).bind fun p => p.1.bind fun lo => some (lo, p.2)
theorem slice2_ok {e : Expr} {q : Expr × Expr} (h : slice2 e = some q) : ∃ p, e = .Slice (some q.1) (some q.2) none p := by
  obtain ⟨⟨lo, up⟩, h1, h⟩ := obind h
  obtain ⟨l, h2, h⟩ := obind h
  cases h
  have h2 : lo = some l := h2
  subst h2
  exact sliceOf_ok h1
noncomputable def isUSub : UnaryOp → Bool
  | .USub => true
  | _ => false
noncomputable def isInOp : CmpOp → Bool
  | .In => true
  | _ => false
noncomputable def locO (sc : Scope) (st : OS) (x : Str) : Option OV := if sc.names.lookup x = some .local ∧ (x == ("__debug__" : Str)) = false then st.l.lookup x else none

section
variable (T : OTab) (sc : Scope)
noncomputable def gloO (x : Str) : Option OV := if sc.names.lookup x = some .globalImplicit ∧ (x == ("__debug__" : Str)) = false then T.glob x else none
noncomputable def nameO (x : Str) (st : OS) : Option OV := if sc.names.lookup x = some .local then locO sc st x else gloO T sc x
/-- a name called with one value -/
noncomputable def callO (g : Str) (a : OV) : Option OV := if sc.names.lookup g = some .globalImplicit then
    (if (g == ("len" : Str)) = true then (strN a).bind fun x => if x.2 ≤ 1048576 then some (.int x.1.length) else none
    else (T.glob g).bind fun f => bltO f a) else none
mutual
noncomputable def oe : Nat → Expr → OS → Option OV
  | 0, _, _ => none
  | n + 1, e, st => match e with
    | .Constant c _ _ => constO c
    | .Name x _ => nameO T sc x st
    | .Attribute o m _ => (nameOf o).bind fun x => (locO sc st x).bind fun v => attrO st v m
    | .BinOp l op r _ => (oe n l st).bind fun a => (oe n r st).bind fun b => binO op a b
    | .UnaryOp op x _ => if isUSub op = true then (oe n x st).bind fun a => (intO a).bind fun i => some (.int (-i)) else none
    | .Subscript v i _ => (slice2 i).bind fun p => (oe n v st).bind fun a => (strN a).bind fun q => (oe n p.1 st).bind fun i => (intO i).bind fun i => (oe n p.2 st).bind fun j => (intO j).bind fun j => cutO q.1 q.2 i j
    | .Call fn args kws _ => (nameOf fn).bind fun g => (one args).bind fun e => if kws.isEmpty = true then (oe n e st).bind fun a => callO T sc g a else none
    | _ => none
noncomputable def ot : Nat → Expr → OS → Option Bool
  | 0, _, _ => none
  | n + 1, e, st => match e with
    | .Compare l ops rs _ => (one ops).bind fun op => (one rs).bind fun r => (oe n l st).bind fun a => (match tupOf r with
      | some xs => if isInOp op = true ∧ xs.length ≤ 16 then (strN a).bind fun x => some (xs.any (· == x.1)) else none
      | none => (oe n r st).bind fun b => cmpO op a b)
    | .UnaryOp op x _ => (match op with
      | .Not => (ot n x st).bind fun b => some (!b)
      | _ => none)
    | .BoolOp op xs p => (match op with
      | .Or => (match xs with
        | [] => some false
        | x :: r => (ot n x st).bind fun c => cond c (some true) (ot n (.BoolOp .Or r p) st))
      | .And => (match xs with
        | [] => some true
        | x :: r => (ot n x st).bind fun c => cond c (ot n (.BoolOp .And r p) st) (some false)))
    | .Constant c _ _ => (constO c).bind truthO
    | .Name x p => (oe n (.Name x p) st).bind truthO
    | .Attribute o m p => (oe n (.Attribute o m p) st).bind truthO
    | _ => none
end
noncomputable def oes : Nat → List Expr → OS → Option (List OV)
  | _, [], _ => some []
  | n, e :: es, st => (oe T sc n e st).bind fun x => (oes n es st).bind fun xs => some (x :: xs)
end

/-- what a call calls: a function of the module, or a method of a name, or of a name's attribute -/
inductive Callee where
  | fn (g : Str)
  | meth (x m : Str)
  | meth2 (x y m : Str)
/-- what is called, by its text -/
noncomputable def calleeAt : Expr → Option (Callee × Option Pos)
  | .Name g _ => some (.fn g, none)
  | .Attribute o m ap => (match o with
    | .Name x _ => some (.meth x m, some ap)
    | .Attribute o2 y _ => (nameOf o2).bind fun x => some (.meth2 x y m, some ap)
    | _ => none)
  | _ => none
noncomputable def near (ap : Option Pos) (cp : Pos) (args : List Expr) : Bool := match ap with
  | some ap => (ap.endLine == cp.line) && decide (args.length < 20)
  | none => true
noncomputable def calleeOf (e : Expr) : Option (Callee × List Expr) := (callOf e).bind fun q => (calleeAt q.1).bind fun c => if q.2.2.1.isEmpty = true ∧ near c.2 q.2.2.2 q.2.1 = true then some (c.1, q.2.1) else none

noncomputable def setO (st : OS) (o : OV) (n : Str) (v : OV) : Option OS := match o with
  | .lex => if lexAttrs.contains n = true ∧ st.a.length ≤ 1000 then some ⟨st.l, putA n v st.a, st.b⟩ else none
  | .strm => if strmAttrs.contains n = true then st.b.bind fun b => if b.length ≤ 1000 then some ⟨st.l, st.a, some (putA n v b)⟩ else none else none
  | _ => none
noncomputable def attrOf (e : Expr) : Option (Str × Str) := (attOf e).bind fun q => (nameOf q.1).bind fun x => some (x, q.2.1)
/-- what an assignment stores -/
noncomputable def asgO (sc : Scope) (l : Attrs) (t : Expr) (v : OV) (a : Attrs) (b : Option Attrs) : Option OOut := match nameOf t with
  | some x => if sc.names.lookup x = some .local then some (.next ⟨(x, v) :: l, a, b⟩) else none
  | none => (attrOf t).bind fun p => (locO sc ⟨l, a, b⟩ p.1).bind fun o => (setO ⟨l, a, b⟩ o p.2 v).bind fun st' => some (.next st')
noncomputable def raiseO (sc : Scope) (e : Expr) : Option OOut := match nameOf e with
  | some x => if (x == ("StopIteration" : Str)) = true ∧ sc.names.lookup x = some .globalImplicit then some (.exc "StopIteration" []) else none
  | none => (strCall e).bind fun p => if (p.1 == ("ValueError" : Str)) = true ∧ sc.names.lookup p.1 = some .globalImplicit then some (.exc "ValueError" [.str p.2 p.2.length]) else none
/-- an answer, kept or flown by -/
noncomputable def onRes (r : ORes) (k : OV → Attrs → Option Attrs → Option OOut) (x : Bool) : Option OOut := match r with
  | .ret v a b => k v a b
  | .exc c as => if x = true then some (.exc c as) else none
noncomputable def resOf : OOut → Option ORes
  | .ret v st => some (.ret v st.a st.b)
  | .next st => some (.ret .none st.a st.b)
  | .exc c as => some (.exc c as)
  | _ => none

section
variable (T : OTab)
noncomputable def fstM (st : OS) (o : OV) (m : Str) : Option (Fn × List OV) := match o with
  | .lex => (T.lex m).bind fun F => some (F, [.lex])
  | .strm => (T.strm m).bind fun F => if st.b.isSome = true then some (F, [.strm]) else none
  | _ => none
/-- which function a callee is, and its first argument -/
noncomputable def funO (sc : Scope) (st : OS) (c : Callee) : Option (Fn × List OV) := match c with
  | .fn g => if sc.names.lookup g = some .globalImplicit then (T.fn g).bind fun F => some (F, []) else none
  | .meth x m => (locO sc st x).bind fun o => fstM T st o m
  | .meth2 x y m => (locO sc st x).bind fun o => (attrO st o y).bind fun o => fstM T st o m
/-- the call of a text's own, if it is one -/
noncomputable def ownO (sc : Scope) (e : Expr) (st : OS) : Option ((Fn × List OV) × List Expr) := (calleeOf e).bind fun c => (funO T sc st c.1).bind fun q => some (q, c.2)
mutual
/-- the value of a right side: a call of the text's own, or a plain expression -/
noncomputable def orv (sc : Scope) : Nat → Expr → OS → Option ORes
  | 0, _, _ => none
  | n + 1, e, st => match ownO T sc e st with
    | some q => (oes T sc n q.2 st).bind fun xs => ocall n q.1.1 (q.1.2 ++ xs) st.a st.b
    | none => (oe T sc n e st).bind fun v => some (.ret v st.a st.b)
noncomputable def ocall : Nat → Fn → List OV → Attrs → Option Attrs → Option ORes
  | 0, _, _, _, _ => none
  | n + 1, F, xs, a, b => if xs.length = F.ps.length then (oxs F.fd.scope n F.body ⟨(F.ps.zip xs).reverse, a, b⟩).bind resOf else none
noncomputable def oxs (sc : Scope) : Nat → List Stmt → OS → Option OOut
  | 0, _, _ => none
  | n + 1, sts, st => match sts with
    | [] => some (.next st)
    | s :: r => (ox sc n s st).bind fun o => (match o with
      | .next st' => oxs sc n r st'
      | o => some o)
noncomputable def ox (sc : Scope) : Nat → Stmt → OS → Option OOut
  | 0, _, _ => none
  | n + 1, s, st => match s with
    | .Return v _ => v.bind fun e => (oe T sc n e st).bind fun v => some (.ret v st)
    | .Assign ts e _ => (one ts).bind fun t => (orv sc n e st).bind fun q => onRes q (asgO sc st.l t) ((nameOf t).isSome || (attrOf t).isSome)
    | .AugAssign t op e _ => (attrOf t).bind fun p => (locO sc st p.1).bind fun o => (attrO st o p.2).bind fun v => (oe T sc n e st).bind fun u => (strN v).bind fun x => (strN u).bind fun y =>
        if isAdd op = true ∧ x.2 + y.2 ≤ 1048576 then (setO st o p.2 (.str (x.1 ++ y.1) (x.2 + y.2))).bind fun st' => some (.next st') else none
    | .Expr e _ => (orv sc n e st).bind fun q => onRes q (fun _ a b => some (.next ⟨st.l, a, b⟩)) true
    | .If t b o _ => (ot T sc n t st).bind fun c => cond c (oxs sc n b st) (oxs sc n o st)
    | .While t body orelse _ => if orelse.isEmpty = true then owl sc n t body st else none
    | .Break _ => some (.brk st)
    | .Continue _ => some (.cont st)
    | .Raise e c _ => if c.isNone = true then e.bind fun e => raiseO sc e else none
    | _ => none
noncomputable def owl (sc : Scope) : Nat → Expr → List Stmt → OS → Option OOut
  | 0, _, _, _ => none
  | n + 1, t, body, st => (ot T sc n t st).bind fun c => cond c ((oxs sc n body st).bind fun o => (match o with
      | .next st' => owl sc n t body st'
      | .cont st' => owl sc n t body st'
      | .brk st' => some (.next st')
      | .ret v st' => some (.ret v st')
      | .exc _ _ => none)) (some (.next st))
end
end
end Mine
end
/- S2 -/
section
open PySem PySem.W PyProof.Rows PySem.Calls
set_option Elab.async false
set_option linter.unusedVariables false
namespace Mine
noncomputable def mAt (i : Nat) : MRow := mTab.getD i ⟨"", "", "", 0, .none, "", 0⟩
noncomputable def mFn (e : MRow) : Fn := ⟨e.a, mfd e, (mfd e).params.posonlyargs.map (·.arg) ++ (mfd e).params.args.map (·.arg), match (mfd e).body with | .stmts b => b | _ => []⟩
noncomputable def globTab : List (Str × OV) := [(Str.ofString "StringIO", .ref 587), (Str.ofString "BytesIO", .ref 340), (Str.ofString "str", .typ "str"), (Str.ofString "type", .typ "type"), (Str.ofString "int", .typ "int"), (Str.ofString "bool", .typ "bool")]
noncomputable def otab : OTab where
  glob x := globTab.lookup x
  fn x := if x == "_index" then some (fnOf (rowAt 1)) else none
  lex x := if x == "read_token" then some (mFn (mAt 8)) else if x == "get_token" then some (mFn (mAt 7)) else none
  strm x := if x == "read" then some (mFn (mAt 4)) else if x == "_StringIO__check" then some (mFn (mAt 3)) else if x == "_StringIO__translated" then some (mFn (mAt 2)) else none
end Mine
end
/- DQ -/
section
open PySem PySem.W PyProof.Rows PySem.Calls Builtin
set_option Elab.async false
set_option linter.unusedVariables false
namespace Mine
set_option maxRecDepth 100000
noncomputable def IsDq (h : Heap) (d : Addr) : Prop := ∃ o, h.get? d = some o ∧ o.cls = .type "collections.deque" ∧ ∃ vs, o.data = .fields vs ∧ vs.size = 2
theorem noBool_dq : typeLookup (.type "collections.deque") "__bool__" = pure none := by rw [typeLookup_type, builtinLookup_eq_fast]; kernel_rfl
theorem slot_dq_len : Slot "collections.deque" "__len__" "collections.deque.__len__" :=
  .of (owner := "collections.deque") (n := "__len__") (by rw [typeLookup_type, builtinLookup_eq_fast]; kernel_rfl) (by decide +kernel) (by decide +kernel) (by decide +kernel)
    (by first | exact .inl (by decide +kernel) | exact .inr (by decide +kernel)) (by rw [isSubtype_type]; kernel_rfl)
theorem entry_dq_len : entryFor table "collections.deque.__len__" = some Builtin.«collections.deque.__len__» := entryFor_of_tree (by kernel_rfl)
theorem args_dq_len (a : Value) : argsOk "collections.deque.__len__" ⟨[a], []⟩ := by unfold argsOk; kernel_rfl
section
variable {prog : Program} {w : World} {A : Around} {E : Value → Shared → Prop} {s : Shared}
theorem len_dq {d : Addr} {Q : Value → Shared → Prop} (hl : IsDq s.heap d) (h : Q (.int 0 (s.toks + 1)) { s with toks := s.toks + 1 + 1 }) :
    wpAny (model prog w) A (Builtin.«len» ⟨[.ref d], []⟩) (fun fin s' => ∃ r, fin = .done (.ret r) ∧ Q r s') E s := by
  obtain ⟨o, ho, hc, vs, hd, hz⟩ := hl
  have hT : s.TypeIs (.ref d) "collections.deque" := ⟨o, ho, hc⟩
  unfold Builtin.«len»
  refine wpAny_bind (m := oneArg "len" _) (wpAny_pure ?_)
  refine wpAny_bind (m := callSpecial? (.ref d) (Str.ofString "__len__")) (wpAny_callSpecial?_slot (name := Str.ofString "__len__") hT slot_dq_len
    (wpAny_call_entry slot_dq_len hT entry_dq_len ?_ (args_dq_len _)))
  unfold Builtin.«collections.deque.__len__»
  have hn : (vs.size - 2) = 0 := by rw [hz]
  show wpAny _ _ (do retInt (← Deque.size (.ref d))) _ _ s
  unfold Deque.size fieldsOf
  refine wpAny_bind (wpAny_bind (wpAny_bind (wpAny_load ho ?_)))
  rw [hd]
  refine wpAny_pure (wpAny_pure ?_)
  rw [hn]
  refine wpAny_bind (wpAny_mkInt (wpAny_pure ⟨_, rfl, ?_⟩))
  refine wpAny_bind (wpAny_holding (wpAny_pure ?_))
  refine wpAny_bind (wpAny_letGo ?_)
  exact wpAny_bind (wpAny_mkInt (wpAny_pure ⟨_, rfl, h⟩))
theorem truthy_dq {d : Addr} {Q : Bool → Shared → Prop} (hl : IsDq s.heap d) (h : Q false { s with toks := s.toks + 1 + 1 }) : wpAny (model prog w) A (truthy (.ref d)) Q E s := by
  have hT : s.TypeIs (.ref d) "collections.deque" := by obtain ⟨o, ho, hc, _⟩ := hl; exact ⟨o, ho, hc⟩
  have key : wpAny (model prog w) A (runValue (.builtin "len" ⟨[.ref d], []⟩)) (fun r s' => r = .int 0 (s.toks + 1) ∧ Q false s') E s := by
    refine wpAny_runValue (codeAny_builtin entry_len ?_)
    rw [Around.under_plainId plain_len _]
    exact wpAny_mono (len_dq (Q := fun r s' => r = .int 0 (s.toks + 1) ∧ Q false s') hl ⟨rfl, h⟩)
      (fun fin s' h' => by obtain ⟨r, rfl, hq⟩ := h'; exact hq) fun _ _ e => e
  unfold truthy
  first
    | refine wpAny_bind (wpAny_callSpecial?_none (name := Str.ofString "__bool__") hT noBool_dq ?_)
    | refine wpAny_bind (wpAny_pure (wpAny_bind (wpAny_callSpecial?_none (name := Str.ofString "__bool__") hT noBool_dq ?_)))
  first
    | refine wpAny_bind (wpAny_specialOf (name := Str.ofString "__len__") hT slot_dq_len.lookup ?_)
    | refine wpAny_bind (wpAny_pure (wpAny_bind (wpAny_specialOf (name := Str.ofString "__len__") hT slot_dq_len.lookup ?_)))
  first
    | exact wpAny_bind (wpAny_mono key (fun r s' h' => by obtain ⟨rfl, hq⟩ := h'; exact wpAny_pure hq) fun _ _ e => e)

end
namespace DF
theorem mro_dq : mroOf (.type "collections.deque") = pure [.type "collections.deque", .type "object"] := by rw [mroOf_type]; kernel_rfl
theorem lookup_dq_new : typeLookup (.type "collections.deque") "__new__" = pure (some (.builtin "collections.deque.__new__")) := by rw [typeLookup_type, builtinLookup_eq_fast]; kernel_rfl
theorem slot_dq_init : Slot "collections.deque" "__init__" "collections.deque.__init__" :=
  .of (owner := "collections.deque") (n := "__init__") (by rw [typeLookup_type, builtinLookup_eq_fast]; kernel_rfl) (by decide +kernel) (by decide +kernel) (by decide +kernel)
    (by first | exact .inl (by decide +kernel) | exact .inr (by decide +kernel)) (by rw [isSubtype_type]; kernel_rfl)
theorem called_dq : TypeCalled "collections.deque" "collections.deque.__new__" "collections.deque.__init__" :=
  ⟨by decide +kernel, by decide +kernel, ⟨_, _, mro_dq⟩, madeBy_type mro_dq lookup_dq_new (by decide +kernel), by decide +kernel, by rw [isSubtype_type]; kernel_rfl, slot_dq_init⟩
theorem typeCall_dq : checkTypeCall "collections.deque" ⟨[], []⟩ = pure () := by kernel_rfl
theorem newCall_dq : checkBuiltinCall "collections.deque.__new__" ⟨[.type "collections.deque"], []⟩ = pure () := by kernel_rfl
theorem entry_dq_new : entryFor table "collections.deque.__new__" = some Builtin.«collections.deque.__new__» := entryFor_of_tree (by kernel_rfl)
theorem entry_dq_init : entryFor table "collections.deque.__init__" = some Builtin.«collections.deque.__init__» := entryFor_of_tree (by kernel_rfl)
theorem plain_dq_new : plainId "collections.deque.__new__" = true := by decide +kernel
theorem args_dq_init (a : Value) : argsOk "collections.deque.__init__" ⟨[a], []⟩ := by unfold argsOk; kernel_rfl
theorem sub_dq : isSubtype (.type "collections.deque") (.type "collections.deque") = pure true := by rw [isSubtype_type]; kernel_rfl
theorem hasDict_dq : typeHasDict (.type "collections.deque") = false := by decide +kernel
end DF
section
variable {prog : Program} {w : World} {A : Around} {E : Value → Shared → Prop} {s : Shared}
theorem code_dq_new {Q₁ : Value → Shared → Prop}
    (h : Q₁ (.ref s.heap.objs.size) { s with heap := s.heap.push { cls := .type "collections.deque", data := .fields #[.none, rawInt 0] } }) :
    codeAny (model prog w) A (.call (.builtin "collections.deque.__new__") ⟨[.type "collections.deque"], []⟩) (wants Q₁ E) s := by
  refine codeAny_of_tree ?_
  show wpAny _ A.in1 (do checkBuiltinCall "collections.deque.__new__" ⟨[.type "collections.deque"], []⟩; again (.builtin "collections.deque.__new__" ⟨[.type "collections.deque"], []⟩)) _ _ s
  refine wpAny_bind (wpAny_of_eq DF.newCall_dq (wpAny_pure ⟨plainId_quiet DF.plain_dq_new _, codeAny_builtin DF.entry_dq_new ?_⟩))
  rw [Around.under_plainId DF.plain_dq_new _]
  have hsub : isSubtype (.type "collections.deque") (.type Deque.ty) = pure true := DF.sub_dq
  obtain ⟨hp, g, d, tk, os⟩ := s
  have hnew : ∀ (E' : Value → Shared → Prop) (Q' : Fin → Shared → Prop), Q' (.done (.ret (.ref hp.objs.size))) ⟨hp.push { cls := .type "collections.deque", data := .fields #[.none, rawInt 0] }, g, d, tk, os⟩ →
      wpAny (model prog w) A.in1 (Deque.new (.type "collections.deque") #[] none >>= fun r => ret r) Q' E' ⟨hp, g, d, tk, os⟩ := by
    intro E' Q' hQ
    unfold Deque.new
    refine wpAny_bind ?_
    show wpAny _ _ (do let d ← (if typeHasDict (.type "collections.deque") then some <$> alloc { cls := .type "dict", data := .dict #[] } else pure none); newObj (.type "collections.deque") (.fields #[.none, rawInt 0]) d) _ _ _
    rw [if_neg (by rw [DF.hasDict_dq]; decide)]
    exact wpAny_bind (wpAny_pure (wpAny_newObj_type (wpAny_pure hQ) (by size_fits)))
  unfold Builtin.«collections.deque.__new__»
  refine wpAny_bind (m := Deque.newArgs Deque.ty _) ?_
  unfold Deque.newArgs
  refine wpAny_bind (m := isType (.type "collections.deque")) (wpAny_pure ?_)
  refine wpAny_bind (m := isSubtype _ _) (wpAny_of_eq hsub ?_)
  exact wpAny_pure (hnew _ _ h)
theorem dq_init_eq (a : Value) : Builtin.«collections.deque.__init__» ⟨[a], []⟩ = (do setField a 0 .none; Deque.clear a; ret .none) := by kernel_rfl
theorem call_dq {Q : Value → Shared → Prop} (h : ∀ h' d, (∀ b o, s.heap.get? b = some o → h'.get? b = some o) → IsDq h' d → Q (.ref d) { s with heap := h' }) : wpAny (model prog w) A (call (.type "collections.deque") []) Q E s := by
  refine callType_codes (Q₁ := fun obj s₁ => obj = .ref s.heap.objs.size ∧ s₁ = { s with heap := s.heap.push { cls := .type "collections.deque", data := .fields #[.none, rawInt 0] } }) DF.called_dq DF.typeCall_dq DF.entry_dq_init (code_dq_new ⟨rfl, rfl⟩) fun obj s₁ h₁ => ?_
  obtain ⟨rfl, rfl⟩ := h₁
  have hg : (s.heap.push { cls := .type "collections.deque", data := .fields #[.none, rawInt 0] }).get? s.heap.objs.size = some { cls := .type "collections.deque", data := .fields #[.none, rawInt 0] } := Heap.get?_push_size _ rfl
  refine ⟨⟨_, hg, rfl⟩, DF.args_dq_init _, ?_⟩
  rw [dq_init_eq]
  have hlt : ∀ b o, s.heap.get? b = some o → b ≠ s.heap.objs.size := fun b o e => Nat.ne_of_lt (Heap.lt_size e)
  refine wpAny_bind (wpAny_setField hg rfl (by show 0 < 2; decide) ?_)
  have hg2 : ((s.heap.push { cls := .type "collections.deque", data := .fields #[.none, rawInt 0] }).update s.heap.objs.size (Obj.mapFields (·.setIfInBounds 0 Value.none))).get? s.heap.objs.size = some { cls := .type "collections.deque", data := .fields #[.none, rawInt 0] } := by
    rw [Heap.get?_update_self _ hg rfl]; rfl
  unfold Deque.clear Deque.items fieldsOf
  refine wpAny_bind (wpAny_bind (wpAny_bind (wpAny_bind (wpAny_load hg2 (wpAny_pure (wpAny_pure ?_))))))
  refine wpAny_pure (wpAny_pure (And.intro rfl (h _ _ (fun b o e => ?_) ⟨_, hg2, rfl, _, rfl, rfl⟩)))
  rw [Heap.get?_update_other _ _ (hlt b o e).symm]
  exact Heap.get?_push_of_some _ e
end
end Mine
end
/- S3 -/
section
open PySem PySem.W PyProof.Rows PySem.Calls Builtin Builtin.ObjectAttr
set_option Elab.async false
set_option linter.unusedVariables false
set_option linter.unusedSimpArgs false
namespace Mine

/-- the state has moved on: at W alone things may have changed -/
structure Mv (W : List Addr) (s s' : Shared) : Prop where
  eq : ∃ h' tk, s' = { s with heap := h', toks := tk }
  keep : ∀ b o, b ∉ W → s.heap.get? b = some o → s'.heap.get? b = some o
  kind : ∀ b o, s.heap.get? b = some o → (∀ vs, o.data ≠ .fields vs) → ∃ o', s'.heap.get? b = some o' ∧ ∀ vs, o'.data ≠ .fields vs
theorem Mv.refl (W : List Addr) (s : Shared) : Mv W s s := ⟨⟨_, _, rfl⟩, fun _ _ _ e => e, fun _ o e n => ⟨o, e, n⟩⟩
theorem Mv.trans {W W' W'' : List Addr} {s s' s'' : Shared} (a : Mv W s s') (b : Mv W' s' s'') (h : ∀ x o, s.heap.get? x = some o → x ∉ W'' → x ∉ W ∧ x ∉ W') : Mv W'' s s'' := by
  obtain ⟨h1, t1, rfl⟩ := a.eq
  obtain ⟨h2, t2, rfl⟩ := b.eq
  refine ⟨⟨h2, t2, rfl⟩, fun x o n e => b.keep x o (h x o e n).2 (a.keep x o (h x o e n).1 e), fun x o e n => ?_⟩
  obtain ⟨o', e', n'⟩ := a.kind x o e n
  exact b.kind x o' e' n'
theorem Mv.tr {W : List Addr} {s s' s'' : Shared} (a : Mv W s s') (b : Mv W s' s'') : Mv W s s'' := a.trans b fun _ _ _ n => ⟨n, n⟩
theorem Mv.mono {W W' : List Addr} {s s' : Shared} (a : Mv W s s') (h : ∀ x o, s.heap.get? x = some o → x ∈ W → x ∈ W') : Mv W' s s' := ⟨a.eq, fun b o n e => a.keep b o (fun z => n (h b o e z)) e, a.kind⟩
theorem Mv.of_keeps {W : List Addr} {s s' : Shared} (k : Keeps s s') : Mv W s s' := by
  obtain ⟨h, t, rfl, x⟩ := k
  exact ⟨⟨h, t, rfl⟩, fun b o _ e => x b o e, fun b o e n => ⟨o, x b o e, n⟩⟩
theorem Mv.tok {W : List Addr} {s : Shared} (t : Nat) : Mv W s { s with toks := t } := ⟨⟨_, _, rfl⟩, fun _ _ _ e => e, fun _ o e n => ⟨o, e, n⟩⟩
theorem Mv.push {W : List Addr} {s : Shared} (o : Obj) : Mv W s { s with heap := s.heap.push o } := Mv.of_keeps (kp_push o)
theorem Mv.keeps {W : List Addr} {s s' : Shared} (a : Mv W s s') (h : ∀ x ∈ W, s.heap.get? x = none) : Keeps s s' := by
  obtain ⟨h1, t1, rfl⟩ := a.eq
  exact ⟨h1, t1, rfl, fun b o e => a.keep b o (fun q => by rw [h b q] at e; cases e) e⟩
theorem Mv.frames {W : List Addr} {s s' : Shared} {base : Heap} {l : List Env} (a : Mv W s s') (f : s.heap.FunFrames base l) : s'.heap.FunFrames base l := by
  induction l with
  | nil => trivial
  | cons env rest ih =>
    obtain ⟨hk, ⟨L, o, hf, hn, ho, hd⟩, hr⟩ := f
    obtain ⟨o', ho', hd'⟩ := a.kind L o ho hd
    exact ⟨hk, ⟨L, o', hf, hn, ho', hd'⟩, ih hr⟩
theorem Mv.stays {W : List Addr} {s s' : Shared} {base : Heap} (a : Mv W s s') (st : base.StaysIn s.heap) (h : ∀ x ∈ W, base.get? x = none) : base.StaysIn s'.heap := fun b o e =>
  a.keep b o (fun q => by rw [h b q] at e; cases e) (st b o e)
/-- a change of one dict -/
theorem Mv.set {s : Shared} {d : Addr} {m : Str → Option Value} {h' : Heap} {tk : Nat} (hn : h'.Ns d m) (hs : Heap.SameBut d s.heap h') : Mv [d] s { s with heap := h', toks := tk } := by
  refine ⟨⟨_, _, rfl⟩, fun b o n e => by rw [hs.2 b (fun z => n (by rw [z]; exact List.mem_singleton_self _))]; exact e, fun b o e n => ?_⟩
  by_cases q : b = d
  · subst q
    obtain ⟨o', es, ep, e', d', _⟩ := hn
    exact ⟨o', e', fun vs z => by rw [d'] at z; cases z⟩
  · exact ⟨o, by rw [hs.2 b q]; exact e, n⟩

/-- an object, by its attributes -/
structure InstR (h : Heap) (ad : Ad) (x C dx : Addr) (at_ : Attrs) : Prop where
  obj : h.get? x = some (instObj C dx)
  ns : ∃ m, h.Ns1 dx m ∧ (∀ n v, at_.lookup n = some v → ∃ u, m n = some u ∧ DenO ad u v) ∧ Within m (at_.map (·.1))
theorem InstR.keeps {h h' : Heap} {ad : Ad} {x C dx : Addr} {at_ : Attrs} (I : InstR h ad x C dx at_) (k : ∀ b o, b = x ∨ b = dx → h.get? b = some o → h'.get? b = some o) : InstR h' ad x C dx at_ := by
  obtain ⟨m, hm, r⟩ := I.ns
  exact ⟨k _ _ (.inl rfl) I.obj, m, hm.at fun o e => k _ o (.inr rfl) e, r⟩
theorem InstR.ne {h : Heap} {ad : Ad} {x C dx : Addr} {at_ : Attrs} (I : InstR h ad x C dx at_) : x ≠ dx := by
  intro e
  obtain ⟨m, ⟨o, es, ep, e1, e2, _⟩, _⟩ := I.ns
  have := I.obj
  rw [e, e1] at this
  cases this; cases e2
theorem lookIn_of {o : Obj} {es : Array DictEntry} {ep : Nat} (hd : o.data = .dict es ep) (hk : StrKeys es) (n : Str) : lookIn n o = some (nsFind es n) := by
  unfold lookIn
  rw [hd]
  dsimp only
  unfold nsFind findBy
  rw [← Array.find?_toList]
  split
  · rename_i e he; rw [he]; rfl
  · rename_i he
    have : es.toList.any (·.refKey) = false := by
      rw [List.any_eq_false]
      intro e h
      obtain ⟨n, t, q⟩ := hk e (by simpa using h)
      simp [DictEntry.refKey, q]
    rw [he, if_neg (by rw [this]; decide)]
    rfl
theorem InstR.at {h : Heap} {ad : Ad} {x C dx : Addr} {at_ : Attrs} (I : InstR h ad x C dx at_) : ∃ od, InstAt h x (instObj C dx) C (some od) ∧ ∀ n v, at_.lookup n = some v → ∃ u, lookIn n od = some (some u) ∧ DenO ad u v := by
  obtain ⟨m, ⟨o, es, ep, e1, e2, e3, e4, e5⟩, h1, h2⟩ := I.ns
  refine ⟨o, ⟨I.obj, rfl, rfl, e1⟩, fun n v e => ?_⟩
  obtain ⟨u, a, b⟩ := h1 n v e
  exact ⟨u, by rw [lookIn_of e2 e3, e5, a], b⟩

noncomputable def Ad.ws (ad : Ad) : List Addr := [ad.dx, ad.dy]
/-- the objects, and the part B of the heap that never changes -/
structure Obs (w : World) (B : Heap) (ad : Ad) (a : Attrs) (b : Option Attrs) (h : Heap) : Prop where
  ix : InstR h ad ad.x 722 ad.dx a
  iy : ∀ l, b = some l → InstR h ad ad.y 587 ad.dy l ∧ ad.dx ≠ ad.dy
  dq : ∀ d, ad.dq d → IsDq h d
  stays : B.StaysIn h
  newX : B.get? ad.dx = none
  newY : B.get? ad.dy = none
  found : Found w B
  lim : B.NoLimit
  nd : b = none → ad.dy = ad.dx
  up : B.objs.size ≤ ad.dx
  na : ∀ n ∈ a.map (·.1), lexAttrs.contains n = true
  nb : ∀ l, b = some l → ∀ n ∈ l.map (·.1), strmAttrs.contains n = true
theorem Obs.frag {w : World} {B : Heap} {ad : Ad} {a : Attrs} {b : Option Attrs} {h : Heap} (O : Obs w B ad a b h) : (kFrag w).In h := O.found.frag.keeps O.stays
theorem Obs.keeps {w : World} {B : Heap} {ad : Ad} {a : Attrs} {b : Option Attrs} {h h' : Heap} (O : Obs w B ad a b h) (k : ∀ b o, h.get? b = some o → h'.get? b = some o) : Obs w B ad a b h' :=
  ⟨O.ix.keeps fun b o _ e => k b o e, fun l e => ⟨(O.iy l e).1.keeps fun b o _ e => k b o e, (O.iy l e).2⟩, fun d e => let ⟨o, q, r⟩ := O.dq d e; ⟨o, k d o q, r⟩, fun b o e => k b o (O.stays b o e), O.newX, O.newY, O.found, O.lim, O.nd, O.up, O.na, O.nb⟩
theorem Obs.mv {w : World} {B : Heap} {ad : Ad} {a : Attrs} {b : Option Attrs} {s s' : Shared} (O : Obs w B ad a b s.heap) (k : Keeps s s') : Obs w B ad a b s'.heap := O.keeps (kp_heap k)

/-- a frame: its names -/
structure FrO (ad : Ad) (B : Heap) (L : Addr) (l : Attrs) (h : Heap) : Prop where
  ns : ∃ m, h.Ns L m ∧ ∀ x v, l.lookup x = some v → ∃ u, m x = some u ∧ DenO ad u v
  new : B.get? L = none
  out : L ∉ ad.ws
theorem FrO.keep {ad : Ad} {B : Heap} {L : Addr} {l : Attrs} {h h' : Heap} (F : FrO ad B L l h) (k : ∀ o, h.get? L = some o → h'.get? L = some o) : FrO ad B L l h' := by
  obtain ⟨m, ⟨o, es, ep, e, r⟩, q⟩ := F.ns
  exact ⟨⟨m, ⟨o, es, ep, k o e, r⟩, q⟩, F.new, F.out⟩
theorem FrO.keeps {ad : Ad} {B : Heap} {L : Addr} {l : Attrs} {s s' : Shared} (F : FrO ad B L l s.heap) (k : Keeps s s') : FrO ad B L l s'.heap := F.keep fun o e => kp_heap k L o e
theorem FrO.mv {ad : Ad} {B : Heap} {L : Addr} {l : Attrs} {s s' : Shared} (F : FrO ad B L l s.heap) (k : Mv ad.ws s s') : FrO ad B L l s'.heap := F.keep fun o e => k.keep L o F.out e
theorem FrO.here {ad : Ad} {B : Heap} {L : Addr} {l : Attrs} {h : Heap} (F : FrO ad B L l h) : ∃ o, h.get? L = some o ∧ ∃ es ep, o.data = .dict es ep := by
  obtain ⟨m, ⟨o, es, ep, e, d, r⟩, q⟩ := F.ns
  exact ⟨o, e, es, ep, d⟩

theorem DenO.handed {ad : Ad} {u : Value} {v : OV} (d : DenO ad u v) : handedIn u = true := by cases d <;> rfl

theorem lookup_putA {n m : Str} {v : OV} : ∀ {l : Attrs}, (putA n v l).lookup m = if m = n then some v else l.lookup m
  | [] => by
    simp only [putA, List.lookup]
    by_cases q : m = n
    · subst q; simp
    · rw [beq_eq_false_iff_ne.mpr q, if_neg q]
  | (k, u) :: r => by
    simp only [putA]
    by_cases z : n = k
    · subst z
      simp only [beq_self_eq_true, if_true, List.lookup]
      by_cases q : m = n
      · subst q; simp
      · rw [beq_eq_false_iff_ne.mpr q, if_neg q]
    · rw [if_neg (by simpa using z)]
      simp only [List.lookup]
      by_cases q : m = k
      · subst q
        rw [if_neg (Ne.symm z)]; simp
      · rw [beq_eq_false_iff_ne.mpr q]; exact lookup_putA (l := r)
theorem mem_putA {n m : Str} {v : OV} : ∀ {l : Attrs}, m ∈ (putA n v l).map (·.1) ↔ m = n ∨ m ∈ l.map (·.1)
  | [] => by simp [putA]
  | (k, u) :: r => by
    simp only [putA]
    by_cases z : n = k
    · subst z; simp
    · rw [if_neg (by simpa using z)]
      simp only [List.map_cons, List.mem_cons, mem_putA (l := r)]
      constructor
      · rintro (h | h | h) <;> simp [h]
      · rintro (h | h | h) <;> simp [h]
theorem len_putA {n : Str} {v : OV} : ∀ {l : Attrs}, (putA n v l).length ≤ l.length + 1
  | [] => by simp [putA]
  | (k, u) :: r => by
    simp only [putA]
    split
    · simp
    · simpa using len_putA (l := r)
end Mine
end
/- S4 -/
section
open PySem PySem.W PyProof.Rows PySem.Calls Builtin Builtin.ObjectAttr
set_option Elab.async false
set_option linter.unusedVariables false
set_option linter.unusedSimpArgs false
namespace Mine
set_option maxRecDepth 100000
noncomputable def clsB (K : Frag) (C : Addr) (l : List Str) : Bool :=
  findIn K (.ref C) "__getattribute__" == some (some (.builtin "object.__getattribute__")) && findIn K (.ref C) "__getattr__" == some none && findIn K (.ref C) "__setattr__" == some (some (.builtin "object.__setattr__"))
  && (clsIn K C).any (·.hasDict) && plainOver K C && l.all fun n => findIn K (.ref C) n == some none
theorem lexB (w : World) : clsB (kFrag w) 722 lexAttrs = true := by kernel_rfl
theorem strmB (w : World) : clsB (kFrag w) 587 strmAttrs = true := by kernel_rfl
structure ClsOk (K : Frag) (C : Addr) (l : List Str) : Prop where
  ga : findIn K (.ref C) "__getattribute__" = some (some (.builtin "object.__getattribute__"))
  gh : findIn K (.ref C) "__getattr__" = some none
  sa : findIn K (.ref C) "__setattr__" = some (some (.builtin "object.__setattr__"))
  hd : (clsIn K C).any (·.hasDict) = true
  po : plainOver K C = true
  no : ∀ n, l.contains n = true → findIn K (.ref C) n = some none
theorem clsOk_of {K : Frag} {C : Addr} {l : List Str} (h : clsB K C l = true) : ClsOk K C l := by
  simp only [clsB, Bool.and_eq_true, beq_iff_eq] at h
  obtain ⟨⟨⟨⟨⟨h1, h2⟩, h3⟩, h4⟩, h5⟩, h6⟩ := h
  refine ⟨h1, h2, h3, h4, h5, fun n hn => ?_⟩
  have := List.all_eq_true.mp h6 n (by simpa using hn)
  simpa using this
theorem lexOk (w : World) : ClsOk (kFrag w) 722 lexAttrs := clsOk_of (lexB w)
theorem strmOk (w : World) : ClsOk (kFrag w) 587 strmAttrs := clsOk_of (strmB w)

section
variable {prog : Program} {w : World} {A : Around} {E : Value → Shared → Prop} {s : Shared} {ad : Ad} {x C dx : Addr} {at_ : Attrs} {l : List Str} {K : Frag}
theorem load_R {n : Str} {v : OV} {expr : Bool} {Q : Value → Shared → Prop} (X : K.In s.heap) (c : ClsOk K C l) (I : InstR s.heap ad x C dx at_) (hn : l.contains n = true) (hv : at_.lookup n = some v)
    (h : ∀ u, DenO ad u v → Q u { s with toks := s.toks + 1 }) : wpAny (model prog w) A (getAttr (.ref x) n expr) Q E s := by
  obtain ⟨od, Ia, hl⟩ := I.at
  obtain ⟨u, hu, d⟩ := hl n v hv
  obtain ⟨cd, hc, hd⟩ := any_some c.hd
  refine get_value X Ia c.ga ?_ d.handed (h u d)
  unfold findObj
  rw [hc, c.no n hn]
  simp only [Option.bind_some]
  unfold PySem.W.ownOf
  rw [if_pos hd]
  simp only [hu, Option.bind_some]

theorem store_R {n : Str} {v : OV} {u : Value} {Q : Unit → Shared → Prop} (X : K.In s.heap) (c : ClsOk K C l) (I : InstR s.heap ad x C dx at_) (hn : l.contains n = true) (d : DenO ad u v) (hz : at_.length ≤ 1000)
    (h : ∀ s', InstR s'.heap ad x C dx (putA n v at_) → Mv [dx] s s' → Q () s') : wpAny (model prog w) A (setAttr (.ref x) n u) Q E s := by
  obtain ⟨od, Ia, hl⟩ := I.at
  obtain ⟨cd, hc, hd⟩ := any_some c.hd
  have ht : takerIn K C n = some none := by unfold takerIn; rw [c.no n hn]; rfl
  refine set_plain X Ia c.sa (osa_open (s := { s with toks := s.toks + 1 }) X Ia c.po ht fun b => ?_)
  obtain ⟨m, hm, hm1, hm2⟩ := I.ns
  refine wpAny_bind (wpAny_pure (wpAny_bind (wpAny_bind (wpAny_loadPart Ia.at_ (wpAny_bind (looks_clsIn X hc _ _ _ _ (fun _ _ e => e) ?_))))))
  rw [hd]
  refine wpAny_pure (a := some dx) ?_
  show wpAny _ _ (storeInDict dx (.str n s.toks) n u) _ _ _
  unfold storeInDict newKeyGuard
  refine wpAny_bind (wpAny_pure (wpAny_bind (wpAny_nsSet1 hm fun h' hn' hs => ?_)))
  have wi : Within (fun y => if y = n then some u else m y) ((putA n v at_).map (·.1)) := by
    intro y hy
    by_cases q : y = n
    · exact mem_putA.mpr (.inl q)
    · simp only [if_neg q] at hy; exact mem_putA.mpr (.inr (hm2 y hy))
  obtain ⟨oD, esD, epD, hoD, hdD, hcD⟩ := hn'.count wi
  have hsz : esD.size ≤ 1001 := by
    have := len_putA (n := n) (v := v) (l := at_)
    rw [List.length_map] at hcD; lia
  refine wpAny_bind (wpAny_lookBehind hoD (by rw [hdD]; exact pastItsLine_dict (by rw [sizeLine_eq]; lia)) ?_)
  refine wpAny_pure ?_
  refine h _ ⟨(hs.2 x I.ne).trans I.obj, _, hn', fun y q e => ?_, wi⟩ (Mv.set (s := s) hn'.ns hs)
  rw [lookup_putA] at e
  by_cases z : y = n
  · rw [if_pos z] at e; cases e; exact ⟨u, by simp [z], d⟩
  · rw [if_neg z] at e
    obtain ⟨u', a', b'⟩ := hm1 y q e
    exact ⟨u', by rw [if_neg z]; exact a', b'⟩

theorem method_R {n : Str} {f : Addr} {pl : Sem Bool} {Q : Value × List Value → Shared → Prop} (X : K.In s.heap) (c : ClsOk K C l) (I : InstR s.heap ad x C dx at_) (hf : findIn K (.ref C) n = some (some (.ref f))) (ht : typeIn K (.ref f) = some (.type "function"))
    (hs : (at_.map (·.1)).contains n = false) (h : Q (.ref f, [.ref x]) s) : wpAny (model prog w) A (getMethod (.ref x) n pl) Q E s := by
  obtain ⟨m, ⟨o, es, ep, e1, e2, e3, e4, e5⟩, h1, h2⟩ := I.ns
  refine method_fn X (od := some o) ⟨I.obj, rfl, rfl, e1⟩ c.ga c.gh hf ht ?_ h
  have : m n = none := by
    by_cases q : m n = none
    · exact q
    · have := h2 n q; simp only [List.contains_eq_mem, decide_eq_false_iff_not] at hs; exact absurd this hs
  show (lookIn n o).map _ = _
  rw [lookIn_of e2 e3, e5, this]; rfl
end
end Mine
end
/- S5 -/
section
open PySem PySem.W PyProof.Rows PySem.Calls Builtin Builtin.ObjectAttr
set_option Elab.async false
set_option linter.unusedVariables false
set_option linter.unusedSimpArgs false
namespace Mine
set_option maxRecDepth 100000
/-- a function of the part with objects -/
structure FnO (w : World) (F : Fn) : Prop where
  body : F.fd.body = .stmts F.body
  bind : ∀ (s : Shared) (args : List Value), (kFrag w).In s.heap → args.length = F.ps.length → BindsTo s F.fd ⟨args, []⟩ (F.ps.zip args)
  cell : ∀ x ∈ F.fd.scope.names, x.2 ≠ .cell
  loc : ∀ p ∈ F.ps, F.fd.scope.names.lookup p = some .local
  co : F.fd.scope.isCoroutine = false
  gen : F.fd.scope.isGenerator = false
  kind : F.fd.scope.kind = .function
  gl : F.fd.globals = mainGlobals
  bl : F.fd.builtins = builtinsNs
/-- where a function lies -/
structure FnAt (B : Heap) (F : Fn) : Prop where
  obj : ∃ o, B.get? F.a = some o ∧ o.data = .func F.fd ∧ o.cls = .type "function"
  code : B.CodeRec F.fd.code F.fd.qualname
noncomputable def wfOB (F : Fn) : Bool :=
  (match F.fd.body with | .stmts _ => true | _ => false) && F.fd.scope.names.all (fun x => x.2 != .cell) && F.ps.all (fun p => F.fd.scope.names.lookup p == some .local)
  && !F.fd.scope.isCoroutine && !F.fd.scope.isGenerator && F.fd.scope.kind == .function && F.fd.globals == mainGlobals && F.fd.builtins == builtinsNs
theorem fnO_of {w : World} {F : Fn} (hb : (match F.fd.body with | .stmts b => b | _ => []) = F.body) (h : wfOB F = true) (bind : ∀ (s : Shared) (args : List Value), (kFrag w).In s.heap → args.length = F.ps.length → BindsTo s F.fd ⟨args, []⟩ (F.ps.zip args)) : FnO w F := by
  simp only [wfOB, Bool.and_eq_true, Bool.not_eq_true', beq_iff_eq] at h
  obtain ⟨⟨⟨⟨⟨⟨⟨h1, h2⟩, h3⟩, h4⟩, h5⟩, h6⟩, h7⟩, h8⟩ := h
  refine ⟨?_, bind, fun x hx => by simpa using List.all_eq_true.mp h2 x hx, fun p hp => by simpa using List.all_eq_true.mp h3 p hp, h4, h5, h6, h7, h8⟩
  split at h1
  · rename_i b hb'; rw [hb'] at hb ⊢; exact congrArg _ hb
  · cases h1
theorem bindsTo_of {K : Frag} {s : Shared} {fd : FuncData} {args : Args} {binds : List (Str × Value)} (X : K.In s.heap) (h : ∀ S : Setting, peek K S (bindArgs fd args) = some binds) : BindsTo s fd args binds :=
  fun M A E Q q => Looks.of_peek X (h _) A Q E s (fun _ _ e => e) q
theorem bindO1 {w : World} {F : Fn} (l : F.ps.length = 1) (h : ∀ (S : Setting) (a : Value), peek (kFrag w) S (bindArgs F.fd ⟨[a], []⟩) = some (F.ps.zip [a])) (s : Shared) (args : List Value) (X : (kFrag w).In s.heap) (ha : args.length = F.ps.length) :
    BindsTo s F.fd ⟨args, []⟩ (F.ps.zip args) := by
  obtain ⟨a, r, rfl, hr⟩ := len_succ (ha.trans l)
  cases len_0 hr
  exact bindsTo_of X fun S => h S a
theorem bindO2 {w : World} {F : Fn} (l : F.ps.length = 2) (h : ∀ (S : Setting) (a b : Value), peek (kFrag w) S (bindArgs F.fd ⟨[a, b], []⟩) = some (F.ps.zip [a, b])) (s : Shared) (args : List Value) (X : (kFrag w).In s.heap) (ha : args.length = F.ps.length) :
    BindsTo s F.fd ⟨args, []⟩ (F.ps.zip args) := by
  obtain ⟨a, r, rfl, hr⟩ := len_succ (ha.trans l)
  obtain ⟨b, q, rfl, hq⟩ := len_succ hr
  cases len_0 hq
  exact bindsTo_of X fun S => h S a b
theorem wfAll : ([2, 3, 4, 6, 7, 8, 9, 10].map fun i => wfOB (mFn (mAt i))).all id = true ∧ wfOB (fnOf (rowAt 1)) = true ∧ wfOB (mFn (mAt 1)) = true ∧ wfOB (mFn (mAt 5)) = true := by decide +kernel
theorem fo2 (w : World) : FnO w (mFn (mAt 2)) := fnO_of (by kernel_rfl) (by decide +kernel) (bindO2 (by kernel_rfl) fun S a b => by kernel_rfl)
theorem fo3 (w : World) : FnO w (mFn (mAt 3)) := fnO_of (by kernel_rfl) (by decide +kernel) (bindO1 (by kernel_rfl) fun S a => by kernel_rfl)
theorem fo4 (w : World) : FnO w (mFn (mAt 4)) := fnO_of (by kernel_rfl) (by decide +kernel) (bindO2 (by kernel_rfl) fun S a b => by kernel_rfl)
theorem fo6 (w : World) : FnO w (mFn (mAt 6)) := fnO_of (by kernel_rfl) (by decide +kernel) (bindO1 (by kernel_rfl) fun S a => by kernel_rfl)
theorem fo7 (w : World) : FnO w (mFn (mAt 7)) := fnO_of (by kernel_rfl) (by decide +kernel) (bindO1 (by kernel_rfl) fun S a => by kernel_rfl)
theorem fo8 (w : World) : FnO w (mFn (mAt 8)) := fnO_of (by kernel_rfl) (by decide +kernel) (bindO1 (by kernel_rfl) fun S a => by kernel_rfl)
theorem fo9 (w : World) : FnO w (mFn (mAt 9)) := fnO_of (by kernel_rfl) (by decide +kernel) (bindO1 (by kernel_rfl) fun S a => by kernel_rfl)
theorem fo10 (w : World) : FnO w (mFn (mAt 10)) := fnO_of (by kernel_rfl) (by decide +kernel) (bindO1 (by kernel_rfl) fun S a => by kernel_rfl)
theorem foI (w : World) : FnO w (fnOf (rowAt 1)) := fnO_of (by kernel_rfl) (by decide +kernel) (bindO2 (by kernel_rfl) fun S a b => by kernel_rfl)
end Mine
end
/- S6 -/
section
open PySem PySem.W PyProof.Rows PySem.Calls Builtin Builtin.ObjectAttr
set_option Elab.async false
set_option linter.unusedVariables false
set_option linter.unusedSimpArgs false
namespace Mine
set_option maxRecDepth 100000

/-- the table's entries are so in the heap B -/
structure TabO (w : World) (B : Heap) (T : OTab) : Prop where
  names : ∃ mg mb, B.Ns mainGlobals mg ∧ B.Ns builtinsNs mb ∧ (∀ x v, T.glob x = some v → ∃ u, (∀ ad, DenO ad u v) ∧ (mg x = some u ∨ (mg x = none ∧ mb x = some u))) ∧
    (mg "len" = none ∧ mb "len" = some (.builtin "len")) ∧ (∀ x F, T.fn x = some F → mg x = some (.ref F.a)) ∧ ∀ x : String, x = "ValueError" ∨ x = "StopIteration" → mg x = none ∧ mb x = some (.type x)
  dbg : ∀ x v, T.glob x = some v → (x == ("__debug__" : Str)) = false
  fn : ∀ x F, T.fn x = some F → (x == ("__debug__" : Str)) = false ∧ FnO w F ∧ FnAt B F
  lex : ∀ m F, T.lex m = some F → findIn (kFrag w) (.ref 722) m = some (some (.ref F.a)) ∧ typeIn (kFrag w) (.ref F.a) = some (.type "function") ∧ lexAttrs.contains m = false ∧ FnO w F ∧ FnAt B F
  strm : ∀ m F, T.strm m = some F → findIn (kFrag w) (.ref 587) m = some (some (.ref F.a)) ∧ typeIn (kFrag w) (.ref F.a) = some (.type "function") ∧ strmAttrs.contains m = false ∧ FnO w F ∧ FnAt B F

theorem isNone_ok {ad : Ad} {u : Value} {a : OV} (d : DenO ad u a) : (u == Value.none) = isNoneO a := by cases d <;> rfl

section
variable {prog : Program} {w : World} {A : Around} {E : Value → Shared → Prop} {s : Shared} {ad : Ad} {B : Heap}

theorem DenO.inv_none {u : Value} (d : DenO ad u .none) : u = .none := by cases d; rfl
theorem DenO.inv_int {u : Value} {i : Int} (d : DenO ad u (.int i)) : ∃ t, u = .int i t := by cases d; exact ⟨_, rfl⟩
theorem DenO.inv_str {u : Value} {x : Str} {n : Nat} (d : DenO ad u (.str x n)) : ∃ t, u = .str x t ∧ x.length ≤ n := by cases d with | str h => exact ⟨_, rfl, h⟩
theorem DenO.inv_typ {u : Value} {n : String} (d : DenO ad u (.typ n)) : u = .type n := by cases d; rfl
theorem DenO.inv_lex {u : Value} (d : DenO ad u .lex) : u = .ref ad.x := by cases d; rfl
theorem DenO.inv_strm {u : Value} (d : DenO ad u .strm) : u = .ref ad.y := by cases d; rfl
theorem isO_ok {a b : OV} {r : Bool} {u v : Value} (h : isO a b = some r) (da : DenO ad u a) (db : DenO ad v b) :
    wpAny (model prog w) A (compareOp .Is u v) (fun x s' => x = .bool r ∧ s' = s) E s ∧ wpAny (model prog w) A (compareOp .IsNot u v) (fun x s' => x = .bool (!r) ∧ s' = s) E s := by
  cases b with
  | none =>
    cases db.inv_none
    cases osome h
    exact ⟨is_none ⟨by rw [isNone_ok da], rfl⟩, isNot_none ⟨by rw [isNone_ok da], rfl⟩⟩
  | typ y =>
    cases db.inv_typ
    obtain ⟨x, hx, h⟩ := obind h
    cases typO_ok hx
    cases da.inv_typ
    cases osome h
    exact ⟨wpAny_is_plain rfl ⟨congrArg Value.bool (type_beq _ _), rfl⟩, isnot_type ⟨congrArg (fun c => Value.bool (!c)) (type_beq _ _), rfl⟩⟩
  | _ => cases h
theorem txO_ok {a b : OV} {k : Str → Str → Bool} {r : Bool} {u v : Value} (h : txO a b k = some r) (da : DenO ad u a) (db : DenO ad v b) : ∃ x t y t', u = .str x t ∧ v = .str y t' ∧ k x y = r := by
  obtain ⟨⟨x, n⟩, hx, h⟩ := obind h
  obtain ⟨⟨y, m⟩, hy, h⟩ := obind h
  cases strN_ok hx
  cases strN_ok hy
  obtain ⟨t, e1, _⟩ := da.inv_str
  obtain ⟨t', e2, _⟩ := db.inv_str
  exact ⟨x, t, y, t', e1, e2, osome h⟩
theorem inO_ok {a b : OV} {k : Int → Int → Bool} {r : Bool} {u v : Value} (h : inO a b k = some r) (da : DenO ad u a) (db : DenO ad v b) : ∃ x t y t', u = .int x t ∧ v = .int y t' ∧ k x y = r := by
  obtain ⟨x, hx, h⟩ := obind h
  obtain ⟨y, hy, h⟩ := obind h
  cases intO_ok hx
  cases intO_ok hy
  obtain ⟨t, e1⟩ := da.inv_int
  obtain ⟨t', e2⟩ := db.inv_int
  exact ⟨x, t, y, t', e1, e2, osome h⟩
theorem eqO_ok {a b : OV} {r : Bool} {u v : Value} (h : eqO a b = some r) (da : DenO ad u a) (db : DenO ad v b) : (v = .none ∧ ((u = .none ∧ true = r) ∨ ∃ x t, u = .str x t ∧ false = r)) ∨ ∃ x t y t', u = .str x t ∧ v = .str y t' ∧ (x == y) = r := by
  cases b with
  | none =>
    refine .inl ⟨db.inv_none, ?_⟩
    cases a with
    | none => exact .inl ⟨da.inv_none, osome h⟩
    | str x n => obtain ⟨t, e, _⟩ := da.inv_str; exact .inr ⟨x, t, e, osome h⟩
    | _ => cases h
  | str y n => exact .inr (txO_ok h da db)
  | _ => exact .inr (txO_ok h da db)

theorem cmpO_ok {op : CmpOp} {a b : OV} {r : Bool} {u v : Value} (h : cmpO op a b = some r) (da : DenO ad u a) (db : DenO ad v b) :
    wpAny (model prog w) A (compareOp op u v) (fun x s' => x = .bool r ∧ s' = s) E s := by
  cases op with
  | Is => exact (isO_ok h da db).1
  | IsNot =>
    obtain ⟨c, h1, h⟩ := obind h
    cases osome h
    exact (isO_ok h1 da db).2
  | Eq =>
    rcases eqO_ok h da db with ⟨rfl, ⟨rfl, rfl⟩ | ⟨x, t, rfl, rfl⟩⟩ | ⟨x, t, y, t', rfl, rfl, rfl⟩
    · exact EqNone.eq_none_none ⟨rfl, rfl⟩
    · exact EqNone.eq_str_none ⟨rfl, rfl⟩
    · exact PyProof.Rows.eq_str ⟨rfl, rfl⟩
  | NotEq => obtain ⟨x, t, y, t', rfl, rfl, rfl⟩ := txO_ok h da db; exact PyProof.Rows.ne_str ⟨rfl, rfl⟩
  | In => obtain ⟨x, t, y, t', rfl, rfl, rfl⟩ := txO_ok (show txO a b (fun x y => Txt.contains y x) = some r from h) da db; exact SB.contains ⟨rfl, rfl⟩
  | NotIn => obtain ⟨x, t, y, t', rfl, rfl, rfl⟩ := txO_ok (show txO a b (fun x y => !Txt.contains y x) = some r from h) da db; exact SB.notContains ⟨rfl, rfl⟩
  | Lt => obtain ⟨x, t, y, t', rfl, rfl, rfl⟩ := inO_ok h da db; exact P.lt_int ⟨rfl, rfl⟩
  | LtE => obtain ⟨x, t, y, t', rfl, rfl, rfl⟩ := inO_ok h da db; exact P.le_int ⟨rfl, rfl⟩
  | Gt => obtain ⟨x, t, y, t', rfl, rfl, rfl⟩ := inO_ok h da db; exact P.gt_int ⟨rfl, rfl⟩
  | GtE => obtain ⟨x, t, y, t', rfl, rfl, rfl⟩ := inO_ok h da db; exact P.ge_int ⟨rfl, rfl⟩

theorem isAdd_ok {op : Operator} (h : isAdd op = true) : op = .Add := by cases op <;> first | rfl | cases h
theorem binO_ok {op : Operator} {a b r : OV} {u v : Value} (h : binO op a b = some r) (da : DenO ad u a) (db : DenO ad v b) :
    wpAny (model prog w) A (binaryOp op u v) (fun x s' => Keeps s s' ∧ DenO ad x r) E s := by
  obtain ⟨q, h⟩ := oif h
  cases isAdd_ok q
  cases a with
  | int i =>
    obtain ⟨j, hj, h3⟩ := obind h
    cases intO_ok hj
    obtain ⟨t, rfl⟩ := da.inv_int
    obtain ⟨t', rfl⟩ := db.inv_int
    cases osome h3
    exact P.add_int ⟨kp_tok _, .int _ _⟩
  | str x n =>
    obtain ⟨⟨y, m⟩, hy, h3⟩ := obind h
    obtain ⟨q2, h4⟩ := oif h3
    have q2 : n + m ≤ 1048576 := q2
    cases strN_ok hy
    obtain ⟨t, rfl, h1⟩ := da.inv_str
    obtain ⟨t', rfl, h2⟩ := db.inv_str
    cases osome h4
    have e : (x ++ y).length ≤ n + m := by rw [strLen_append]; exact Nat.add_le_add h1 h2
    exact SB.add (fun t' k => ⟨kp_tok _, .str e⟩) (by rw [sizeLine_eq]; exact Nat.le_trans (Nat.add_le_add h1 h2) (Nat.le_trans q2 (by decide)))
  | _ => cases h
end
end Mine
end
/- S7 -/
section
open PySem PySem.W PyProof.Rows PySem.Calls Builtin Builtin.ObjectAttr
set_option Elab.async false
set_option linter.unusedVariables false
set_option linter.unusedSimpArgs false
namespace Mine
set_option maxRecDepth 100000
noncomputable def stRet : Stmt → Option Expr
  | .Return v _ => v
  | _ => none
theorem stRet_ok {s : Stmt} {e : Expr} (h : stRet s = some e) : ∃ p, s = .Return (some e) p := by
  cases s with
  | Return v p => cases v with
    | none => cases h
    | some _ => cases h; exact ⟨p, rfl⟩
  | _ => cases h
noncomputable def getterOf (b : List Stmt) : Option (Str × Str) := (one b).bind fun s => (stRet s).bind attrOf
theorem attrOf_ok {e : Expr} {q : Str × Str} (h : attrOf e = some q) : ∃ px p, e = .Attribute (.Name q.1 px) q.2 p := by
  obtain ⟨⟨o, m, ap⟩, h1, h⟩ := obind h
  obtain ⟨x, h2, h⟩ := obind h
  cases osome h
  obtain ⟨px, e2⟩ := nameOf_ok h2
  exact ⟨px, ap, (attOf_ok h1).trans (by rw [show o = _ from e2])⟩
theorem isGetter_ok {b : List Stmt} {q : Str × Str} (h : getterOf b = some q) : ∃ p1 p2 p3, b = [.Return (some (.Attribute (.Name q.1 p1) q.2 p2)) p3] := by
  obtain ⟨s, h1, h⟩ := obind h
  obtain ⟨e, h2, h⟩ := obind h
  obtain ⟨p3, rfl⟩ := stRet_ok h2
  obtain ⟨p1, p2, rfl⟩ := attrOf_ok h
  exact ⟨p1, p2, p3, one_ok h1⟩
theorem getter_is : getterOf (mFn (mAt 6)).body = some (("self" : Str), propAttr) := by kernel_rfl
theorem getter_ps : (mFn (mAt 6)).ps = [Str.ofString "self"] := by kernel_rfl
theorem findProp (w : World) (od : Option Obj) : findObj (kFrag w) 722 od propName = some (.bind (.builtin "property.__get__") (.ref 654)) := by kernel_rfl
theorem recProp (w : World) : recIn (kFrag w) 654 "property" = some [.ref 653, .none, .none, .none, .str "punctuation_chars" 1034, .bool false] := by kernel_rfl
theorem mrow_at (w : World) : ∀ e ∈ mTab, (kFrag w).lookup e.a = some (mObj e) := by
  have key : ∀ i, i < 11 → (kFrag w).lookup (mAt i).a = some (mObj (mAt i)) := by
    intro i hi
    have all : (List.range 11).map (fun i => (kFrag w).lookup (mAt i).a) = (List.range 11).map (fun i => some (mObj (mAt i))) := by kernel_rfl
    have := congrArg (fun l => l[i]?) all
    simpa [hi] using this
  intro e he
  obtain ⟨i, hi, rfl⟩ := List.mem_iff_getElem.mp he
  have hl : mTab.length = 11 := rfl
  have : mAt i = mTab[i] := by simp [mAt, List.getD, List.getElem?_eq_getElem hi]
  rw [← this]
  exact key i (by lia)
theorem mAt_mem (i : Nat) (h : i < 11) : mAt i ∈ mTab := by
  have hl : i < mTab.length := h
  have : mAt i = mTab[i] := by simp [mAt, List.getD, List.getElem?_eq_getElem hl]
  rw [this]; exact List.getElem_mem hl
theorem Found.fnAt {w : World} {B : Heap} (Fd : Found w B) {i : Nat} (h : i < 11) (hc : (mfd (mAt i)).code = .ref ((mAt i).a - 1) ∧ (mfd (mAt i)).qualname = (mAt i).qual) : FnAt B (mFn (mAt i)) :=
  ⟨⟨_, Fd.frag _ _ (mrow_at w _ (mAt_mem i h)), rfl, rfl⟩, by show B.CodeRec (mfd (mAt i)).code (mfd (mAt i)).qualname; rw [hc.1, hc.2]; exact Fd.mcodes _ (mAt_mem i h)⟩
theorem mcode (i : Nat) (h : i < 11) : (mfd (mAt i)).code = .ref ((mAt i).a - 1) ∧ (mfd (mAt i)).qualname = (mAt i).qual := by
  have : (List.range 11).all (fun i => (mfd (mAt i)).code == .ref ((mAt i).a - 1) && (mfd (mAt i)).qualname == (mAt i).qual) = true := by decide +kernel
  simpa using List.all_eq_true.mp this i (by simpa using h)

section
variable {prog : Program} {w : World} {A : Around} {E : Value → Shared → Prop} {s : Shared} {ad : Ad} {B : Heap} {a : Attrs} {b : Option Attrs}

theorem prop_R {v : OV} {expr : Bool} {Q : Value → Shared → Prop} (c : Cx A 2) (O : Obs w B ad a b s.heap) (hv : a.lookup propAttr = some v) (h : ∀ u s', Keeps s s' → DenO ad u v → Q u s') :
    wpAny (model prog w) A (getAttr (.ref ad.x) propName expr) Q E s := by
  obtain ⟨od, Ia, hl⟩ := O.ix.at
  refine get_bind O.frag Ia (lexOk w).ga (findProp w _) (lexOk w).gh ?_
  obtain ⟨o, ho, hd, _⟩ := (O.found.fnAt (i := 6) (by decide) (mcode 6 (by decide))).obj
  have Fo := fo6 w
  have len : ([.ref ad.x] : List Value).length = (mFn (mAt 6)).ps.length := by kernel_rfl
  obtain ⟨p1, p2, p3, hb⟩ := isGetter_ok getter_is
  have hb : (mFn (mAt 6)).body = [.Return (some (.Attribute (.Name "self" p1) propAttr p2)) p3] := hb
  have lp : ∀ p ∈ (mFn (mAt 6)).ps.zip [Value.ref ad.x], (mFn (mAt 6)).fd.scope.names.lookup p.1 = some .local := fun p hp => Fo.loc p.1 (List.of_mem_zip hp).1
  have k1 : Keeps s { s with toks := s.toks + 1 } := kp_tok _
  refine wpAny_call (prop_get (s := { s with toks := s.toks + 1 }) O.frag (recProp w) (codeAny_call_def (s := { s with toks := s.toks + 1 }) (fd := (mFn (mAt 6)).fd) (by have := c.depth; simp [Around.in1]; lia) (O.stays _ _ ho) hd (O.lim.keeps O.stays) ((O.found.fnAt (i := 6) (by decide) (mcode 6 (by decide))).code.keeps O.stays) Fo.body
    (Fo.bind _ _ O.frag len) Fo.cell lp (fun h₀ hn hk => ?_) Fo.co Fo.gen Fo.kind))
  rw [hb]
  refine wpAny_execs_cons (wpAny_Return_some (Attribute_name (wpAny_Name (wpAny_loadName_local (m := fun x => ((mFn (mAt 6)).ps.zip [Value.ref ad.x]).reverse.lookup x) ?_ ?_ ?hn (v := .ref ad.x) ?_ ?_) (by decide))))
  case hn => exact hn
  · exact Fo.kind
  · exact Fo.loc (Str.ofString "self") (by rw [getter_ps]; exact List.mem_singleton_self _)
  · rw [getter_ps]; rfl
  · have k2 : Keeps { s with toks := s.toks + 1 } { s with heap := h₀, toks := s.toks + 1 + ((mFn (mAt 6)).ps.zip [Value.ref ad.x]).length } := ⟨h₀, _, rfl, hk⟩
    have O2 := (O.mv k1).mv k2
    refine load_R O2.frag (lexOk w) O2.ix (by decide) hv fun u d => ?_
    show wpAny _ _ (handedOut u) _ _ _
    rw [handedOut_of d.handed]
    exact wpAny_pure (h u _ (kp_trans (kp_trans k1 k2) (kp_tok _)) d)
end
end Mine
end
/- S8 -/
section
open PySem PySem.W PyProof.Rows PySem.Calls Builtin Builtin.ObjectAttr
set_option Elab.async false
set_option linter.unusedVariables false
set_option linter.unusedSimpArgs false
namespace Mine
set_option maxRecDepth 100000
/-- the plain expressions -/
noncomputable def isOe : Expr → Bool
  | .Constant .. => true
  | .Name .. => true
  | .Attribute .. => true
  | .BinOp .. => true
  | .UnaryOp .. => true
  | .Subscript .. => true
  | .Call .. => true
  | _ => false
theorem isOe_of {T : OTab} {sc : Scope} {n : Nat} {e : Expr} {st : OS} {r : OV} (h : oe T sc n e st = some r) : isOe e = true := by
  cases n with
  | zero => cases h
  | succ n =>
    refine onSome.ok (o := oe T sc (n + 1) e st) (p := fun _ => isOe e = true) ?_ h
    cases e <;> first | exact trivial | (cases oe T sc (n + 1) _ st <;> trivial)
theorem isOe_star {e : Expr} (h : isOe e = true) (rest : List Expr) (env : Env) : starEach (e :: rest) env = (false, eval e env) :: starEach rest env := by
  cases e <;> first | rfl | cases h
theorem isOe_marks {e : Expr} {op : CmpOp} (h : isOe e = true) : behindInMarks op e = false := by
  cases e <;> first | rfl | cases h
theorem isOe_swap {e : Expr} (h : isOe e = true) (t : Option Expr) (l : Nat) (env : Env) : swapsWith e t l env = pure false := by
  cases e <;> first | rfl | cases h
theorem oe_star {T : OTab} {sc : Scope} {n : Nat} {e : Expr} {st : OS} {r : OV} (h : oe T sc n e st = some r) (rest : List Expr) (env : Env) : starEach (e :: rest) env = (false, eval e env) :: starEach rest env := isOe_star (isOe_of h) rest env
theorem oe_marks {T : OTab} {sc : Scope} {n : Nat} {e : Expr} {st : OS} {r : OV} {op : CmpOp} (h : oe T sc n e st = some r) : behindInMarks op e = false := isOe_marks (isOe_of h)
theorem oe_swap {T : OTab} {sc : Scope} {n : Nat} {e : Expr} {st : OS} {r : OV} (h : oe T sc n e st = some r) (t : Option Expr) (l : Nat) (env : Env) : swapsWith e t l env = pure false := isOe_swap (isOe_of h) t l env

/-- what a plain expression leaves -/
abbrev PostO (ad : Ad) (s : Shared) (v : OV) : Value → Shared → Prop := fun u s' => Keeps s s' ∧ DenO ad u v

section
variable (prog : Program) (w : World) (T : OTab) (sc : Scope) (B : Heap) (ad : Ad)
noncomputable def EvO (n : Nat) : Prop := ∀ e st v, oe T sc n e st = some v → ∀ A env L s (E : Value → Shared → Prop), Cx A (n + 3) → EnvIs env sc L → FrO ad B L st.l s.heap → Obs w B ad st.a st.b s.heap →
  wpAny (model prog w) A (eval e env) (PostO ad s v) E s
noncomputable def TrO (n : Nat) : Prop := ∀ e st b, ot T sc n e st = some b → ∀ A env L s (E : Value → Shared → Prop), Cx A (n + 3) → EnvIs env sc L → FrO ad B L st.l s.heap → Obs w B ad st.a st.b s.heap →
  wpAny (model prog w) A (isTrue e env (eval e env)) (fun c s' => c = b ∧ Keeps s s') E s
end

section
variable {prog : Program} {w : World} {A : Around} {E : Value → Shared → Prop} {s : Shared} {ad : Ad} {B : Heap} {T : OTab} {sc : Scope} {env : Env} {L : Addr} {st : OS}

theorem nameL_ok {x : Str} {pos : Pos} {v : OV} (hx : sc.names.lookup x = some .local) (hd : (x == ("__debug__" : Str)) = false) (hv : st.l.lookup x = some v) (ei : EnvIs env sc L) (F : FrO ad B L st.l s.heap) :
    wpAny (model prog w) A (eval (.Name x pos) env) (fun u s' => s' = s ∧ DenO ad u v) E s := by
  obtain ⟨m, hm, hl⟩ := F.ns
  obtain ⟨u, hu, d⟩ := hl x v hv
  refine wpAny_Name (wpAny_loadName_local ?_ ?_ ?_ hu ⟨rfl, d⟩) hd
  · rw [ei.scp]; exact ei.kind
  · show env.scope.names.lookup x = _; rw [ei.scp]; exact hx
  · rw [ei.loc]; exact hm

theorem nameG_ok {x : Str} {pos : Pos} {u : Value} {mg mb : Str → Option Value} {Q : Value → Shared → Prop} (hx : sc.names.lookup x = some .globalImplicit) (hd : (x == ("__debug__" : Str)) = false) (hg : B.Ns mainGlobals mg) (hb : B.Ns builtinsNs mb)
    (q : mg x = some u ∨ (mg x = none ∧ mb x = some u)) (ei : EnvIs env sc L) (O : B.StaysIn s.heap) (hQ : Q u s) : wpAny (model prog w) A (eval (.Name x pos) env) Q E s := by
  have e1 : env.scope.kind = .function := by rw [ei.scp]; exact ei.kind
  have e2 : env.kindOf x = some .globalImplicit := by show env.scope.names.lookup x = _; rw [ei.scp]; exact hx
  rcases q with q | ⟨q1, q2⟩
  · exact Name_function_global e1 e2 (loadGlobal_global (mg := mg) (by rw [ei.gl]; exact hg.keeps O) q hQ) hd
  · exact Name_function_global e1 e2 (loadGlobal_builtin (mg := mg) (mb := mb) (by rw [ei.gl]; exact hg.keeps O) q1 (by rw [ei.bl]; exact hb.keeps O) q2 hQ) hd

theorem attr_ok {o : OV} {ov : Value} {m : Str} {v : OV} {expr : Bool} (c : Cx A 2) (h : attrO st o m = some v) (d : DenO ad ov o) (O : Obs w B ad st.a st.b s.heap) :
    wpAny (model prog w) A (getAttr ov m expr) (PostO ad s v) E s := by
  cases o with
  | lex =>
    rw [d.inv_lex]
    rcases oite h with ⟨q, h⟩ | ⟨_, h⟩
    · rw [eq_of_beq q]
      exact prop_R c O h fun u s' k d => ⟨k, d⟩
    · obtain ⟨q, h⟩ := oif h
      exact load_R O.frag (lexOk w) O.ix q h fun u d => ⟨kp_tok _, d⟩
  | strm =>
    rw [d.inv_strm]
    obtain ⟨q, h⟩ := oif h
    obtain ⟨b, hb, h⟩ := obind h
    exact load_R O.frag (strmOk w) (O.iy b hb).1 q h fun u d => ⟨kp_tok _, d⟩
  | _ => cases h

theorem constO_ok {c : Const} {k : Nat} {pos : Pos} {r : OV} (h : constO c = some r) : wpAny (model prog w) A (eval (.Constant c k pos) env) (PostO ad s r) E s := by
  rw [eval_Constant]
  cases c with
  | none => cases osome h; exact wpAny_pure ⟨kp_refl _, .none⟩
  | bool b => cases osome h; exact wpAny_pure ⟨kp_refl _, .bool _⟩
  | int i => cases osome h; exact wpAny_mkInt ⟨kp_tok _, .int _ _⟩
  | str x => cases osome h; exact wpAny_mkText ⟨kp_tok _, .str (Nat.le_refl _)⟩
  | _ => cases h

theorem typeO_ok {a : OV} {t : String} {u : Value} (h : typeO a = some t) (d : DenO ad u a) : wpAny (model prog w) A (call (.type "type") [u]) (PostO ad s (.typ t)) E s := by
  cases a with
  | bool b => cases osome h; cases d; exact call_type_of (PySem.typeIs_bool s _) (by decide) ⟨kp_refl _, .typ _⟩
  | int i => cases osome h; obtain ⟨t, rfl⟩ := d.inv_int; exact call_type_of (PySem.typeIs_int s _ _) (by decide) ⟨kp_refl _, .typ _⟩
  | str x n => cases osome h; obtain ⟨t, rfl, _⟩ := d.inv_str; exact call_type_of (typeIs_str s _ _) (by decide) ⟨kp_refl _, .typ _⟩
  | _ => cases h
end
end Mine
end
/- S9 -/
section
open PySem PySem.W PyProof.Rows PySem.Calls Builtin Builtin.ObjectAttr
set_option Elab.async false
set_option linter.unusedVariables false
set_option linter.unusedSimpArgs false
namespace Mine
set_option maxRecDepth 100000
section
variable {prog : Program} {w : World} {A : Around} {E : Value → Shared → Prop} {s : Shared} {ad : Ad} {B : Heap} {T : OTab} {sc : Scope} {env : Env} {L : Addr} {st : OS}

theorem bltO_ok {f : OV} {a r : OV} {fv : Value} (h : bltO f a = some r) (df : ∀ ad, DenO ad fv f) : ∃ i, fv = .type i ∧ ∀ {u s}, DenO ad u a → wpAny (model prog w) A (call (.type i) [u]) (PostO ad s r) E s := by
  obtain ⟨n, hn, h⟩ := obind h
  cases typO_ok hn
  refine ⟨n, (df ad).inv_typ, fun d => ?_⟩
  rcases oite h with ⟨rfl, h1⟩ | ⟨_, h1⟩
  · obtain ⟨t, ht, h2⟩ := obind h1
    cases osome h2
    exact typeO_ok ht d
  · obtain ⟨rfl, h2⟩ := oif h1
    obtain ⟨i, hi, h3⟩ := obind h2
    cases osome h3
    cases intO_ok hi
    obtain ⟨t, rfl⟩ := d.inv_int
    exact call_int_int ⟨kp_refl _, .int _ _⟩
theorem fit_len {n k : Nat} (h : n ≤ k) (q : k ≤ 1048576) : ¬ ((n : Int) ≥ 2 ^ 63) := by lia
theorem isUSub_ok {op : UnaryOp} (h : isUSub op = true) : op = .USub := by cases op <;> first | rfl | cases h
theorem locO_ok {sc : Scope} {st : OS} {x : Str} {v : OV} (h : locO sc st x = some v) : sc.names.lookup x = some .local ∧ (x == ("__debug__" : Str)) = false ∧ st.l.lookup x = some v := by
  obtain ⟨q, h⟩ := oif h
  exact ⟨q.1, q.2, h⟩
theorem locO_ev {x : Str} {pos : Pos} {v : OV} (h : locO sc st x = some v) (ei : EnvIs env sc L) (F : FrO ad B L st.l s.heap) : wpAny (model prog w) A (eval (.Name x pos) env) (fun u s' => s' = s ∧ DenO ad u v) E s := by
  obtain ⟨h1, h2, h3⟩ := locO_ok h
  exact nameL_ok h1 h2 h3 ei F
theorem name_okO (TO : TabO w B T) {x : Str} {pos : Pos} {v : OV} (h : nameO T sc x st = some v) (ei : EnvIs env sc L) (F : FrO ad B L st.l s.heap) (O : Obs w B ad st.a st.b s.heap) : wpAny (model prog w) A (eval (.Name x pos) env) (PostO ad s v) E s := by
  rcases oite h with ⟨_, h⟩ | ⟨_, h⟩
  · exact wpAny_mono (locO_ev h ei F) (fun u s' h' => ⟨by rw [h'.1]; exact kp_refl _, h'.2⟩) fun _ _ z => z
  · obtain ⟨q, h⟩ := oif h
    obtain ⟨mg, mb, hg, hb, hv, _⟩ := TO.names
    obtain ⟨u, du, q2⟩ := hv x v h
    exact nameG_ok q.1 q.2 hg hb q2 ei O.stays ⟨kp_refl _, du ad⟩
theorem cut_okO {v' lo up : Expr} {p pos : Pos} {x : Str} {k : Nat} {i' j' : Int} {r : OV} (hv : wpAny (model prog w) A (eval v' env) (fun u s₁ => wpAny (model prog w) A (eval lo env) (fun x1 s₂ => wpAny (model prog w) A (eval up env) (fun y s₃ => Keeps s s₃ ∧ DenO ad u (.str x k) ∧ DenO ad x1 (.int i') ∧ DenO ad y (.int j')) E s₂) E s₁) E s)
    (h : cutO x k i' j' = some r) : wpAny (model prog w) A (eval (.Subscript v' (.Slice (some lo) (some up) none p) pos) env) (PostO ad s r) E s := by
  obtain ⟨q, h⟩ := oif h
  cases osome h
  refine Subscript_ (wpAny_mono hv (fun u s₁ h₁ => ?_) fun _ _ z => z)
  refine wpAny_Slice ?_
  rw [evalPart_some, evalPart_some, evalPart_none]
  refine wpAny_mono h₁ (fun x1 s₂ h₂ => ?_) fun _ _ z => z
  refine wpAny_mono h₂ (fun y s₃ h₃ => ?_) fun _ _ z => z
  refine wpAny_pure ?_
  obtain ⟨k3, du, dx, dy⟩ := h₃
  obtain ⟨t0, rfl, hle⟩ := du.inv_str
  obtain ⟨t1, rfl⟩ := dx.inv_int
  obtain ⟨t2, rfl⟩ := dy.inv_int
  have kp : KeptH (fun h' => ∀ b o, s₃.heap.get? b = some o → h'.get? b = some o) := fun h' ob hk b o e => Heap.get?_push_of_some _ (hk b o e)
  obtain ⟨Tx, id, hl, hT, hg⟩ := SBH.sliceItem_ss (prog := prog) (w := w) (A := A) (E := E) (s := s₃) (x := x) (i := i') (j := j') (ui := t1) (uj := t2) (Q := PostO ad s (.str (Txt.slice x (some i') (some j')) k)) kp (fun b o e => e)
    (fun h' t' k' hk => ⟨kp_trans k3 ⟨h', k', rfl, hk⟩, .str (Nat.le_trans (Txt.slice_le x _ _) hle)⟩) (by rw [sizeLine_eq]; exact Nat.le_trans hle (Nat.le_trans q (by decide)))
  exact tail_any (ops := [.ref s₃.heap.objs.size, .str x _]) hT hl hg rfl

theorem ev_succO (TO : TabO w B T) {n : Nat} (i1 : EvO prog w T sc B ad n) : EvO prog w T sc B ad (n + 1) := by
  intro e st v h A env L s E c ei F O
  have ev1 : ∀ {e : Expr} {a : OV} {s₁ : Shared}, oe T sc n e st = some a → Keeps s s₁ → wpAny (model prog w) A (eval e env) (fun u s₂ => Keeps s s₂ ∧ DenO ad u a) E s₁ := fun ha k =>
    wpAny_mono (i1 _ st _ ha A env L _ E (c.mono (Nat.le_succ _)) ei (F.keeps k) (O.mv k)) (fun u s₁ h₁ => ⟨kp_trans k h₁.1, h₁.2⟩) fun _ _ z => z
  cases e with
  | Constant cc k pos => exact constO_ok h
  | Name x pos => exact name_okO TO h ei F O
  | Attribute o m pos =>
    obtain ⟨x, hx, h1⟩ := obind h
    obtain ⟨o', ho, h2⟩ := obind h1
    obtain ⟨px, rfl⟩ := nameOf_ok hx
    refine Attribute_name (wpAny_mono (locO_ev ho ei F) (fun ov s₁ h₁ => ?_) fun _ _ z => z)
    obtain ⟨rfl, d⟩ := h₁
    exact attr_ok (c.mono (Nat.le_add_left ..)) h2 d O
  | BinOp l op r' pos =>
    obtain ⟨a, ha, h1⟩ := obind h
    obtain ⟨b, hb, h2⟩ := obind h1
    refine wpAny_BinOp (wpAny_mono (ev1 ha (kp_refl _)) (fun u s₁ h₁ => wpAny_mono (ev1 hb h₁.1) (fun v s₂ h₂ => ?_) fun _ _ z => z) fun _ _ z => z)
    exact wpAny_mono (binO_ok h2 h₁.2 h₂.2) (fun x s₃ h₃ => ⟨kp_trans h₂.1 h₃.1, h₃.2⟩) fun _ _ z => z
  | UnaryOp op x pos =>
    obtain ⟨q, h1⟩ := oif h
    obtain ⟨a, ha, h2⟩ := obind h1
    obtain ⟨i, hi, h3⟩ := obind h2
    cases isUSub_ok q
    cases intO_ok hi
    cases osome h3
    show wpAny _ _ (do let v ← eval x env; standAt pos; holding [v] (unaryOp .USub v)) _ _ _
    refine wpAny_bind (wpAny_mono (ev1 ha (kp_refl _)) (fun u s₁ h₁ => wpAny_bind (wpAny_standAt (wpAny_holding ?_))) fun _ _ z => z)
    obtain ⟨k, d⟩ := h₁
    obtain ⟨t, rfl⟩ := d.inv_int
    exact P.neg_int ⟨kp_trans k (kp_tok _), .int _ _⟩
  | Subscript v' i pos =>
    obtain ⟨⟨lo, up⟩, hp, h1⟩ := obind h
    obtain ⟨a, ha, h2⟩ := obind h1
    obtain ⟨⟨x, k⟩, hx, h3⟩ := obind h2
    obtain ⟨b, hb, h4⟩ := obind h3
    obtain ⟨i', hi, h5⟩ := obind h4
    obtain ⟨d, hd, h6⟩ := obind h5
    obtain ⟨j', hj, h7⟩ := obind h6
    obtain ⟨p, rfl⟩ := slice2_ok hp
    rw [strN_ok hx] at ha
    rw [intO_ok hi] at hb
    rw [intO_ok hj] at hd
    exact cut_okO (wpAny_mono (ev1 ha (kp_refl _)) (fun u s₁ h₁ => wpAny_mono (ev1 hb h₁.1) (fun u2 s₂ h₂ => wpAny_mono (ev1 hd h₂.1) (fun u3 s₃ h₃ => ⟨h₃.1, h₁.2, h₂.2, h₃.2⟩) fun _ _ z => z) fun _ _ z => z) fun _ _ z => z) h7
  | Call fn args kws pos =>
    obtain ⟨g, hg, h1⟩ := obind h
    obtain ⟨e, he, h2⟩ := obind h1
    obtain ⟨hk, h3⟩ := oif h2
    obtain ⟨a, ha, h4⟩ := obind h3
    obtain ⟨xp, rfl⟩ := nameOf_ok hg
    cases one_ok he
    cases isEmpty_ok hk
    obtain ⟨hx, h5⟩ := oif h4
    obtain ⟨mg, mb, hgl, hb, hv, hln, _⟩ := TO.names
    have arg : ∀ {R : List Value → Shared → Prop}, (∀ u s₁, Keeps s s₁ → DenO ad u a → R [u] s₁) → wpAny (model prog w) A (spliced (backTo pos (starEach [e] env))) R E s := fun hR =>
      args_cons (wpAny_mono (ev1 ha (kp_refl _)) (fun u s₁ h₁ => spliced_nil (hR u s₁ h₁.1 h₁.2)) fun _ _ z => z) (oe_star ha [] env)
    rcases oite h5 with ⟨hlen, h6⟩ | ⟨_, h6⟩
    · obtain ⟨⟨y, k⟩, hy, h7⟩ := obind h6
      obtain ⟨q, h8⟩ := oif h7
      have q : k ≤ 1048576 := q
      cases strN_ok hy
      cases osome h8
      rw [eq_of_beq hlen] at hx ⊢
      refine Call_ (nameG_ok hx (by decide +kernel) hgl hb (.inr hln) ei O.stays ?_)
      refine callWith_builtin1 (arg fun u s₁ k1 d => ?_) (oe_star ha [] env) rfl
      obtain ⟨t, rfl, hle⟩ := d.inv_str
      exact len_str (fit_len hle q) ⟨kp_trans k1 (kp_tok _), .int _ _⟩
    · obtain ⟨f, hf, h7⟩ := obind h6
      obtain ⟨u, du, q⟩ := hv g f hf
      obtain ⟨i, rfl, hc⟩ := bltO_ok h7 du
      refine Call_ (nameG_ok hx (TO.dbg g f hf) hgl hb q ei O.stays ?_)
      refine PyProof.Rows.callWith_type1 (arg fun u s₁ k1 d => ?_) (oe_star ha [] env) rfl
      exact wpAny_mono (hc d) (fun r s₂ h₂ => ⟨kp_trans k1 h₂.1, h₂.2⟩) fun _ _ z => z
  | _ => cases h
end
end Mine
end
/- S10 -/
section
open PySem PySem.W PyProof.Rows PySem.Calls Builtin Builtin.ObjectAttr
set_option Elab.async false
set_option linter.unusedVariables false
set_option linter.unusedSimpArgs false
namespace Mine
set_option maxRecDepth 100000
section
variable {prog : Program} {w : World} {A : Around} {E : Value → Shared → Prop} {s : Shared} {ad : Ad} {B : Heap} {T : OTab} {sc : Scope} {env : Env} {L : Addr} {st : OS}

theorem bne_len (n : Nat) : ((n : Int) != 0) = (n != 0) := by
  by_cases q : n = 0
  · rw [q]; rfl
  · rw [bne_iff_ne.mpr q]; exact bne_iff_ne.mpr (by lia)
theorem truthO_ok {a : OV} {r : Bool} {u : Value} {at_ : Attrs} {bt : Option Attrs} (h : truthO a = some r) (d : DenO ad u a) (O : Obs w B ad at_ bt s.heap) :
    wpAny (model prog w) A (truthy u) (fun c s' => c = r ∧ Keeps s s') E s := by
  cases a with
  | none => cases osome h; rw [d.inv_none]; exact truthy_none ⟨rfl, kp_refl _⟩
  | bool b => cases osome h; cases d; exact wpAny_truthy_bool ⟨rfl, kp_refl _⟩
  | int i => cases osome h; obtain ⟨t, rfl⟩ := d.inv_int; exact P.truthy_int ⟨rfl, kp_refl _⟩
  | str x n =>
    obtain ⟨hn, h1⟩ := oif h
    cases osome h1
    obtain ⟨t, rfl, hle⟩ := d.inv_str
    exact P.truthy_str (fit_len hle hn) ⟨bne_len _, kp_tok _⟩
  | dq => cases osome h; cases d with | dq ha => exact truthy_dq (O.dq _ ha) ⟨rfl, kp_tok _⟩
  | _ => cases h

theorem constStrs_spliced {ad : Ad} (es : List Expr) : ∀ {xs : List Str} {pos : Pos} {s : Shared}, constStrs es = some xs → wpAny (model prog w) A (spliced (backTo pos (starEach es env))) (fun vs s' => Keeps s s' ∧ StrsAre vs xs) E s := by
  induction es with
  | nil => intro xs pos s h; cases osome h; exact spliced_nil ⟨kp_refl _, .nil⟩
  | cons e es ih =>
    intro xs pos s h
    obtain ⟨x, h1, h2⟩ := obind h
    obtain ⟨xs', h3, h4⟩ := obind h2
    cases osome h4
    obtain ⟨k, p, rfl⟩ := constStr_ok h1
    refine args_cons ?_ rfl
    rw [eval_Constant]
    exact wpAny_mkText (wpAny_mono (ih h3) (fun vs s' h' => ⟨kp_trans (kp_tok _) h'.1, .cons _ _ h'.2⟩) fun _ _ z => z)
theorem strsAre_len {vs : List Value} {xs : List Str} (h : StrsAre vs xs) : vs.length = xs.length := by
  induction h with
  | nil => rfl
  | cons y t h ih => exact congrArg (· + 1) ih
theorem tupEs_ok {e : Expr} {es : List Expr} : tupEs e = some es → ∃ k p, e = .Tuple es k p :=
  onSome.ok (p := fun es => ∃ k p, e = .Tuple es k p) (by cases e with
    | Tuple es k p => exact ⟨k, p, rfl⟩
    | _ => exact trivial)
theorem tup_marks {e : Expr} {xs : List Str} (h : tupOf e = some xs) : ∃ es k p, e = .Tuple es k p ∧ constStrs es = some xs := by
  obtain ⟨es, h1, h2⟩ := obind h
  obtain ⟨k, p, h3⟩ := tupEs_ok h1
  exact ⟨es, k, p, h3, h2⟩
theorem isInOp_ok {op : CmpOp} (h : isInOp op = true) : op = .In := by cases op <;> first | rfl | cases h

theorem tr_succO (TO : TabO w B T) {n : Nat} (i1 : EvO prog w T sc B ad n) (i3 : TrO prog w T sc B ad n) : TrO prog w T sc B ad (n + 1) := by
  intro e st b h A env L s E c ei F O
  have c1 : Cx A (n + 3) := c.mono (Nat.le_succ _)
  have ev1 : ∀ {e : Expr} {a : OV} {s₁ : Shared}, oe T sc n e st = some a → Keeps s s₁ → wpAny (model prog w) A (eval e env) (fun u s₂ => Keeps s s₂ ∧ DenO ad u a) E s₁ := fun ha k =>
    wpAny_mono (i1 _ st _ ha A env L _ E c1 ei (F.keeps k) (O.mv k)) (fun u s₁ h₁ => ⟨kp_trans k h₁.1, h₁.2⟩) fun _ _ z => z
  have tr1 : ∀ {e : Expr} {a : Bool} {s₁ : Shared}, ot T sc n e st = some a → Keeps s s₁ → wpAny (model prog w) A (isTrue e env (eval e env)) (fun c s₂ => c = a ∧ Keeps s s₂) E s₁ := fun ha k =>
    wpAny_mono (i3 _ st _ ha A env L _ E c1 ei (F.keeps k) (O.mv k)) (fun q s₁ h₁ => ⟨h₁.1, kp_trans k h₁.2⟩) fun _ _ z => z
  have plain : (oe T sc n e st).bind truthO = some b → isTrue e env (eval e env) = (do let v ← eval e env; standAt e.pos; holding [v] (truthy v)) →
      wpAny (model prog w) A (isTrue e env (eval e env)) (fun c s' => c = b ∧ Keeps s s') E s := fun h he => by
    obtain ⟨a, ha, h'⟩ := obind h
    refine isTrue_plain (wpAny_mono (ev1 ha (kp_refl _)) (fun u s₁ h₁ => ?_) fun _ _ z => z) he
    exact wpAny_mono (truthO_ok h' h₁.2 (O.mv h₁.1)) (fun x s₂ h₂ => ⟨h₂.1, kp_trans h₁.1 h₂.2⟩) fun _ _ z => z
  cases e with
  | Compare l ops rs pos =>
    obtain ⟨op, ho, h1⟩ := obind h
    obtain ⟨r', hr, h2⟩ := obind h1
    obtain ⟨a, ha, h3⟩ := obind h2
    cases one_ok ho
    cases one_ok hr
    have h4 : (match tupOf r' with
      | some xs => if isInOp op = true ∧ xs.length ≤ 16 then (strN a).bind fun x => some (xs.any (· == x.1)) else none
      | none => (oe T sc n r' st).bind fun b => cmpO op a b) = some b := h3
    cases q : tupOf r' with
    | some xs =>
      rw [q] at h4
      obtain ⟨⟨q1, hlen⟩, h5⟩ := oif h4
      obtain ⟨⟨x, k⟩, hx, h6⟩ := obind h5
      cases isInOp_ok q1
      rw [strN_ok hx] at ha
      obtain ⟨es, kk, p, rfl, hes⟩ := tup_marks q
      refine wpAny_isTrue_Compare1 (wpAny_mono (ev1 ha (kp_refl _)) (fun u s₁ h₁ => ?_) fun _ _ z => z) rfl
      obtain ⟨k1, d⟩ := h₁
      obtain ⟨t, rfl, _⟩ := d.inv_str
      refine Tuple_ (wpAny_mono (constStrs_spliced (ad := ad) es hes) (fun vs s₂ h₂ => ?_) fun _ _ z => z)
      refine wpAny_newTuple ?_ (by rw [strsAre_len h₂.2, sizeLine_eq]; exact Nat.le_trans hlen (by decide))
      refine in_tuple_strs (items := vs.toArray) ⟨_, Heap.get?_push_size _ rfl, rfl, _, rfl⟩ h₂.2 ?_
      exact wpAny_truthy_bool ⟨osome h6, kp_trans (kp_trans k1 h₂.1) (kp_push _)⟩
    | none =>
      rw [q] at h4
      obtain ⟨b', hb, h5⟩ := obind h4
      refine wpAny_isTrue_Compare1 (wpAny_mono (ev1 ha (kp_refl _)) (fun u s₁ h₁ => ?_) fun _ _ z => z) (oe_marks hb)
      refine wpAny_mono (ev1 hb h₁.1) (fun v s₂ h₂ => ?_) fun _ _ z => z
      refine wpAny_mono (cmpO_ok h5 h₁.2 h₂.2) (fun x s₃ h₃ => ?_) fun _ _ z => z
      obtain ⟨rfl, rfl⟩ := h₃
      exact wpAny_truthy_bool ⟨rfl, h₂.1⟩
  | UnaryOp op x pos =>
    cases op with
    | Not =>
      obtain ⟨b', hb, h1⟩ := obind h
      cases osome h1
      refine isTrue_not (wpAny_mono (tr1 hb (kp_refl _)) (fun q s₁ h₁ => ?_) fun _ _ z => z)
      obtain ⟨rfl, k⟩ := h₁
      exact ⟨rfl, k⟩
    | _ => cases h
  | BoolOp op vs pos =>
    cases op with
    | And =>
      cases vs with
      | nil => cases osome h; exact isTrue_and_nil ⟨rfl, kp_refl _⟩
      | cons x rest =>
        obtain ⟨c, hc, h1⟩ := obind h
        refine isTrue_and (wpAny_mono (tr1 hc (kp_refl _)) (fun q s₁ h₁ => ?_) fun _ _ z => z)
        obtain ⟨rfl, k⟩ := h₁
        cases q with
        | true => exact tr1 (e := .BoolOp .And rest pos) h1 k
        | false => exact ⟨osome h1, k⟩
    | Or =>
      cases vs with
      | nil => cases osome h; exact isTrue_or_nil ⟨rfl, kp_refl _⟩
      | cons x rest =>
        obtain ⟨c, hc, h1⟩ := obind h
        refine isTrue_or (wpAny_mono (tr1 hc (kp_refl _)) (fun q s₁ h₁ => ?_) fun _ _ z => z)
        obtain ⟨rfl, k⟩ := h₁
        cases q with
        | true => exact ⟨osome h1, k⟩
        | false => exact tr1 (e := .BoolOp .Or rest pos) h1 k
  | Constant cc k pos =>
    obtain ⟨a, ha, h1⟩ := obind h
    refine isTrue_plain (wpAny_mono (constO_ok (ad := ad) ha) (fun u s₁ h₁ => ?_) fun _ _ z => z) rfl
    exact wpAny_mono (truthO_ok h1 h₁.2 (O.mv h₁.1)) (fun x s₂ h₂ => ⟨h₂.1, kp_trans h₁.1 h₂.2⟩) fun _ _ z => z
  | Name x pos => exact plain h rfl
  | Attribute o m pos => exact plain h rfl
  | _ => cases h
end
end Mine
end
/- S11 -/
section
open PySem PySem.W PyProof.Rows PySem.Calls Builtin Builtin.ObjectAttr
set_option Elab.async false
set_option linter.unusedVariables false
set_option linter.unusedSimpArgs false
namespace Mine
set_option maxRecDepth 100000
section
variable {prog : Program} {w : World} {ad : Ad} {B : Heap} {T : OTab} {sc : Scope}
theorem evAllO (TO : TabO w B T) (n : Nat) : EvO prog w T sc B ad n ∧ TrO prog w T sc B ad n := by
  induction n with
  | zero => exact ⟨fun e st v h => (by cases h), fun e st v h => (by cases h)⟩
  | succ n ih => exact ⟨ev_succO TO ih.1, tr_succO TO ih.1 ih.2⟩
theorem oes_first {n : Nat} {e : Expr} {es : List Expr} {st : OS} {xs : List OV} (h : oes T sc n (e :: es) st = some xs) (env : Env) : starEach (e :: es) env = (false, eval e env) :: starEach es env := by
  obtain ⟨x, hx, _⟩ := obind h
  exact oe_star hx es env
theorem oes_plain {n : Nat} {st : OS} {pos : Pos} {env : Env} {es : List Expr} : ∀ {xs : List OV}, oes T sc n es st = some xs → (backTo pos (starEach es env)).all (fun x => !x.1) = true := by
  induction es with
  | nil => intro xs h; rfl
  | cons e es ih =>
    intro xs h
    obtain ⟨x, hx, h1⟩ := obind h
    obtain ⟨ys, hy, h2⟩ := obind h1
    rw [oes_first h env]
    exact (ih hy : _)
theorem oes_ok (TO : TabO w B T) {n : Nat} {A : Around} {env : Env} {L : Addr} {st : OS} {pos : Pos} {E : Value → Shared → Prop} (c : Cx A (n + 3)) (ei : EnvIs env sc L) {es : List Expr} : ∀ {xs : List OV} {s : Shared}, oes T sc n es st = some xs →
    FrO ad B L st.l s.heap → Obs w B ad st.a st.b s.heap → wpAny (model prog w) A (spliced (backTo pos (starEach es env))) (fun vs s' => Keeps s s' ∧ DenOs ad vs xs) E s := by
  induction es with
  | nil => intro xs s h F O; cases osome h; exact spliced_nil ⟨kp_refl _, .nil⟩
  | cons e es ih =>
    intro xs s h F O
    obtain ⟨x, hx, h1⟩ := obind h
    obtain ⟨ys, hy, h2⟩ := obind h1
    cases osome h2
    refine args_cons (wpAny_mono ((evAllO TO n).1 e st x hx A env L s E c ei F O) (fun v s₁ h₁ => ?_) fun _ _ z => z) (oes_first h env)
    exact wpAny_mono (ih hy (F.keeps h₁.1) (O.mv h₁.1)) (fun vs s₂ h₂ => ⟨kp_trans h₁.1 h₂.1, .cons h₁.2 h₂.2⟩) fun _ _ z => z
end

/-- the state has moved on; what is kept is kept up to the slots -/
structure MvU (W : List Addr) (s s' : Shared) : Prop where
  eq : ∃ h' tk, s' = { s with heap := h', toks := tk }
  keep : ∀ b o, b ∉ W → s.heap.get? b = some o → (∀ vs, o.data ≠ .fields vs) → ∃ sl, s'.heap.get? b = some { o with slots := sl }
theorem Mv.u {W : List Addr} {s s' : Shared} (a : Mv W s s') : MvU W s s' := ⟨a.eq, fun b o n e _ => ⟨o.slots, a.keep b o n e⟩⟩
theorem MvU.up {W : List Addr} {s s' : Shared} {h2 : Heap} (a : MvU W s s') (u : s'.heap.UpToSlots h2) : MvU W s { s' with heap := h2 } := by
  obtain ⟨h1, t1, rfl⟩ := a.eq
  refine ⟨⟨h2, t1, rfl⟩, fun b o n e d => ?_⟩
  obtain ⟨sl, q⟩ := a.keep b o n e d
  obtain ⟨sl2, q2⟩ := u b _ q d
  exact ⟨sl2, q2⟩
theorem Mv.thenU {W W' : List Addr} {s s' s'' : Shared} (a : Mv W s s') (b : MvU W s' s'') : MvU W s s'' := by
  obtain ⟨h1, t1, rfl⟩ := a.eq
  obtain ⟨h2, t2, rfl⟩ := b.eq
  exact ⟨⟨h2, t2, rfl⟩, fun x o n e d => b.keep x o n (a.keep x o n e) d⟩
theorem MvU.mono {W W' : List Addr} {s s' : Shared} (a : MvU W s s') (h : ∀ x o, s.heap.get? x = some o → x ∈ W → x ∈ W') : MvU W' s s' := ⟨a.eq, fun b o n e d => a.keep b o (fun z => n (h b o e z)) e d⟩

/-- an exception on its way through a frame: new, come from below, or noted here -/
noncomputable def ESt (B : Heap) (l : List Env) (L e : Addr) (cls a0 : Value) (h : Heap) : Prop :=
  B.StaysIn h ∧ B.get? e = none ∧ h.FunFrames B l ∧
  ((∃ oe vs, h.get? e = some oe ∧ oe.cls = cls ∧ oe.data = .fields vs ∧ vs[0]? = some a0 ∧ vs[1]? = some .none) ∨ h.TracedW B e cls a0 ∨ h.TracedAtW B e cls a0 (rawInt L))

section
variable {M : Model} {A : Around} {E : Value → Shared → Prop} {s : Shared} {B : Heap} {env : Env} {outer : List Env} {L e : Addr} {cls a0 : Value} {Q : Unit → Shared → Prop}
theorem ESt.leaves (hfr : A.frames = some (env :: outer)) (hf : env.frame = some L) (x : ESt B (env :: outer) L e cls a0 s.heap)
    (hQ : ∀ h', Heap.FlyingW B outer e cls a0 h' → s.heap.UpToSlots h' → Q () { s with heap := h' }) : wpAny M A (leaving env (.ref e)) Q E s := by
  obtain ⟨hkb, hen, hl, ⟨oe, vs, he, rfl, hd, h0, h1⟩ | ht | ht⟩ := x
  · exact wpAny_leaving_firstW hfr hl hf he hkb hen hd h1 h0 fun h' hL => hQ h' ⟨hL.1, hen, hL.2.1.2.2, hL.2.2.1⟩ hL.2.2.2
  · exact wpAny_leaves_onW hfr hf ⟨hkb, hen, hl, ht⟩ hQ
  · unfold leaving
    refine wpAny_bind (wpAny_noteFrame_againW hf ht ?_)
    exact wpAny_landsW ⟨hkb, hen, hl, ht⟩ fun h' hfl up => hQ h' ⟨hfl.1, hfl.2.1, hfl.2.2.1.2.2, hfl.2.2.2⟩ up
theorem ESt.note (hfr : A.frames = some (env :: outer)) (hf : env.frame = some L) (x : ESt B (env :: outer) L e cls a0 s.heap)
    (hQ : ∀ h', Heap.HeldW B (env :: outer) e cls a0 L h' → s.heap.UpToSlots h' → Q () { s with heap := h' }) : wpAny M A (noteFrame (.ref e) env) Q E s := by
  obtain ⟨hkb, hen, hl, ⟨oe, vs, he, rfl, hd, h0, h1⟩ | ht | ht⟩ := x
  · unfold noteFrame
    simp only [hf]
    refine wpAny_bind (wpAny_field he hd h1 ?_)
    rw [if_neg (by decide)]
    exact wpAny_entryW hfr hl hf he hkb hen hd (Array.getElem?_eq_some_iff.mp h1).1 h0 fun h' hN => hQ h' ⟨hN.1, hen, hN.2.1, hN.2.2.1⟩ hN.2.2.2
  · exact wpAny_looks_onW hfr hf ⟨hkb, hen, hl, ht⟩ hQ
  · exact wpAny_noteFrame_againW hf ht (hQ _ ⟨hkb, hen, hl, ht⟩ (.refl _))
/-- behind a loop of its own -/
theorem came_back (hf : env.frame = some L) (x : Heap.HeldW B (env :: outer) e cls a0 L s.heap) {E' : Value → Shared → Prop}
    (hQ : ∀ h', Heap.HeldW B (env :: outer) e cls a0 L h' → s.heap.UpToSlots h' → E' (.ref e) { s with heap := h' }) : cameBackBy M A env E' (.ref e) s := by
  obtain ⟨hkb, hen, hl, oe, vs, T, oT, ts, he, ⟨hcls, h0⟩, hd, h1, hnT, hTe, hT, hdT, h3⟩ := x
  unfold cameBackBy
  refine wpAny_bind (wpAny_field he hd h1 ?_)
  rw [if_neg (show ¬ ((Value.ref T == Value.none) = true) from by simp)]
  rw [hf]
  have hsz3 : 3 < ts.size := (Array.getElem?_eq_some_iff.mp h3).1
  have other : ∀ b, b ≠ T → (s.heap.update T (Obj.mapFields (·.setIfInBounds 3 ((some L).elim Value.none fun f => rawInt f)))).get? b = s.heap.get? b :=
    fun b hb => Heap.get?_update_other _ _ (Ne.symm hb)
  have noRecord : ∀ b o, s.heap.get? b = some o → (∀ vs, o.data ≠ .fields vs) → b ≠ T := fun b o hb hnf q => by
    rw [q, hT] at hb; injection hb with hb; subst hb; exact hnf ts hdT
  unfold setFlight
  refine wpAny_bind (wpAny_field he hd h1 ?_)
  rw [if_pos (show (Value.ref T != Value.none) = true from by simp)]
  refine wpAny_setField hT hdT hsz3 (hQ _ ⟨fun b o hbo => (other b fun q => by rw [q, hnT] at hbo; cases hbo).trans (hkb b o hbo), hen,
    hl.of_keeps fun b o hb hnf => ⟨o, (other b (noRecord b o hb hnf)).trans hb, rfl⟩, ?_⟩ fun b o hb hnf => ⟨o.slots, (other b (noRecord b o hb hnf)).trans hb⟩)
  exact ⟨oe, vs, T, _, _, (other e (Ne.symm hTe)).trans he, ⟨hcls, h0⟩, hd, h1, hnT, hTe, Heap.get?_update_self _ hT (Obj.isFreed_of_fields (Obj.data_mapFields hdT _)), Obj.data_mapFields hdT _, by simp [hsz3]⟩
end
end Mine
end
/- S12 -/
section
open PySem PySem.W PyProof.Rows PySem.Calls Builtin Builtin.ObjectAttr
set_option Elab.async false
set_option linter.unusedVariables false
set_option linter.unusedSimpArgs false
namespace Mine
set_option maxRecDepth 100000

/-- what a statement leaves -/
noncomputable def SOutO (w : World) (B : Heap) (ad : Ad) (L : Addr) (s : Shared) : OOut → Flow → Shared → Prop
  | .next st, .next, s' => FrO ad B L st.l s'.heap ∧ Obs w B ad st.a st.b s'.heap ∧ Mv (L :: ad.ws) s s'
  | .brk st, .brk, s' => FrO ad B L st.l s'.heap ∧ Obs w B ad st.a st.b s'.heap ∧ Mv (L :: ad.ws) s s'
  | .cont st, .cont, s' => FrO ad B L st.l s'.heap ∧ Obs w B ad st.a st.b s'.heap ∧ Mv (L :: ad.ws) s s'
  | .ret v st, .ret u, s' => DenO ad u v ∧ Obs w B ad st.a st.b s'.heap ∧ Mv (L :: ad.ws) s s'
  | _, _, _ => False
/-- an exception that has left a frame -/
noncomputable def FlyO (B : Heap) (ad : Ad) (outer : List Env) (cls : String) (args : List OV) (W : List Addr) (s : Shared) (e : Value) (s' : Shared) : Prop :=
  ∃ ea t vs, e = .ref ea ∧ Heap.FlyingW B outer ea (.type cls) (.ref t) s'.heap ∧ s'.heap.TupAt t vs ∧ B.get? t = none ∧ DenOs ad vs args ∧ MvU W s s'
/-- an exception within a frame -/
noncomputable def ExcO (B : Heap) (ad : Ad) (l : List Env) (L : Addr) (cls : String) (args : List OV) (W : List Addr) (s : Shared) (e : Value) (s' : Shared) : Prop :=
  ∃ ea t vs, e = .ref ea ∧ ESt B l L ea (.type cls) (.ref t) s'.heap ∧ s'.heap.TupAt t vs ∧ B.get? t = none ∧ DenOs ad vs args ∧ MvU W s s'
noncomputable def EOutO (B : Heap) (ad : Ad) (l : List Env) (L : Addr) (s : Shared) : OOut → Value → Shared → Prop
  | .exc cls args, e, s' => ExcO B ad l L cls args (L :: ad.ws) s e s'
  | _, _, _ => False
noncomputable def QRes (w : World) (B : Heap) (ad : Ad) (s : Shared) : ORes → Value → Shared → Prop
  | .ret v a b, u, s' => DenO ad u v ∧ Obs w B ad a b s'.heap ∧ Mv ad.ws s s'
  | _, _, _ => False
noncomputable def ERes (B : Heap) (ad : Ad) (l : List Env) (s : Shared) : ORes → Value → Shared → Prop
  | .exc cls args, e, s' => FlyO B ad l cls args ad.ws s e s'
  | _, _, _ => False

/-- the frames below -/
structure Stk (A : Around) (B : Heap) (l : List Env) (h : Heap) : Prop where
  fr : A.frames = some l
  fun_ : h.FunFrames B l
theorem Stk.mv {A : Around} {B : Heap} {l : List Env} {W : List Addr} {s s' : Shared} (x : Stk A B l s.heap) (m : Mv W s s') : Stk A B l s'.heap := ⟨x.fr, m.frames x.fun_⟩

section
variable (prog : Program) (w : World) (T : OTab) (B : Heap) (ad : Ad)
noncomputable def RvO (n : Nat) : Prop := ∀ sc e st res, orv T sc n e st = some res → ∀ A env L outer s, Cx A (n + 3) → EnvIs env sc L → Stk A B (env :: outer) s.heap → FrO ad B L st.l s.heap → Obs w B ad st.a st.b s.heap →
  wpAny (model prog w) A (eval e env) (QRes w B ad s res) (ERes B ad (env :: outer) s res) s
noncomputable def CallO (n : Nat) : Prop := ∀ F xs a b res, FnO w F → FnAt B F → ocall T n F xs a b = some res → ∀ A l s vs, Cx A (n + 3) → Stk A B l s.heap → Obs w B ad a b s.heap → DenOs ad vs xs →
  wpAny (model prog w) A (call (.ref F.a) vs) (QRes w B ad s res) (ERes B ad l s res) s
noncomputable def OxsO (n : Nat) : Prop := ∀ sc sts st out, oxs T sc n sts st = some out → ∀ A env L outer s, Cx A (n + 3) → EnvIs env sc L → env.frame = some L → Stk A B (env :: outer) s.heap → FrO ad B L st.l s.heap → Obs w B ad st.a st.b s.heap →
  wpAny (model prog w) A (execs sts env) (SOutO w B ad L s out) (EOutO B ad (env :: outer) L s out) s
noncomputable def OxO (n : Nat) : Prop := ∀ sc sm st out, ox T sc n sm st = some out → ∀ A env L outer s, Cx A (n + 3) → EnvIs env sc L → env.frame = some L → Stk A B (env :: outer) s.heap → FrO ad B L st.l s.heap → Obs w B ad st.a st.b s.heap →
  wpAny (model prog w) A (exec sm env) (SOutO w B ad L s out) (EOutO B ad (env :: outer) L s out) s
end

section
variable {prog : Program} {w : World} {T : OTab} {B : Heap} {ad : Ad}

theorem zip_look {ad : Ad} : ∀ (ps : List Str) (vs : List Value) (xs : List OV) (lv : List (Str × Value)) (lx : Attrs), DenOs ad vs xs → (∀ y v, lx.lookup y = some v → ∃ u, lv.lookup y = some u ∧ DenO ad u v) →
    ∀ y v, ((ps.zip xs).reverse ++ lx).lookup y = some v → ∃ u, ((ps.zip vs).reverse ++ lv).lookup y = some u ∧ DenO ad u v := by
  intro ps
  induction ps with
  | nil => intro vs xs lv lx _ q y v e; simpa using q y v (by simpa using e)
  | cons p ps ih =>
    intro vs xs lv lx d q y v e
    cases d with
    | nil => simpa using q y v (by simpa using e)
    | cons h1 h2 =>
      rename_i v1 x1 vs1 xs1
      simp only [List.zip_cons_cons, List.reverse_cons, List.append_assoc, List.cons_append, List.nil_append] at e ⊢
      refine ih vs1 xs1 ((p, v1) :: lv) ((p, x1) :: lx) h2 (fun y v e => ?_) y v e
      simp only [List.lookup] at e ⊢
      split at e
      · cases e; rename_i hb; exact ⟨v1, rfl, h1⟩
      · exact q y v e

theorem callEnv_frame (fd : FuncData) (L a : Addr) (h : fd.scope.kind = .function) : (callEnv fd L a).frame = some L := by
  unfold callEnv newEnv
  simp [h]

theorem Obs.fresh {w : World} {a : Attrs} {b : Option Attrs} {s : Shared} (O : Obs w B ad a b s.heap) : s.heap.objs.size ∉ ad.ws := by
  have f : s.heap.get? s.heap.objs.size = none := size_none _
  have hx : ad.dx ≠ s.heap.objs.size := fun e => by
    obtain ⟨m, ⟨o, es, ep, e1, _⟩, _⟩ := O.ix.ns
    rw [e, f] at e1; cases e1
  have hy : ad.dy ≠ s.heap.objs.size := by
    cases b with
    | none => rw [O.nd rfl]; exact hx
    | some l =>
      intro e
      obtain ⟨m, ⟨o, es, ep, e1, _⟩, _⟩ := (O.iy l rfl).1.ns
      rw [e, f] at e1; cases e1
  intro hm
  rcases List.mem_cons.mp hm with q | q
  · exact hx q.symm
  · exact hy (List.mem_singleton.mp q).symm

theorem call_succO {n : Nat} (i : OxsO prog w T B ad n) : CallO prog w T B ad (n + 1) := by
  intro F xs a b res Fo Fa h A l s vs c sk O d
  obtain ⟨hlen, h0⟩ := oif h
  obtain ⟨out, he, h1⟩ := obind h0
  obtain ⟨o, ho, hd, _⟩ := Fa.obj
  have hvs : vs.length = F.ps.length := d.length.trans hlen
  have fresh : s.heap.get? s.heap.objs.size = none := size_none _
  refine wpAny_call (codeAny_call_def (by have := c.depth; lia) (O.stays _ _ ho) hd (O.lim.keeps O.stays) (Fa.code.keeps O.stays) Fo.body (Fo.bind s vs O.frag hvs) Fo.cell (fun p hp => Fo.loc p.1 (List.of_mem_zip hp).1) (fun h₀ hn hk => ?_) Fo.co Fo.gen Fo.kind)
  have ei : EnvIs (callEnv F.fd s.heap.objs.size F.a) F.fd.scope s.heap.objs.size := ⟨rfl, rfl, Fo.gl, Fo.bl, Fo.kind⟩
  have ef := callEnv_frame F.fd s.heap.objs.size F.a Fo.kind
  have kp : Keeps s { s with heap := h₀, toks := s.toks + (F.ps.zip vs).length } := ⟨h₀, _, rfl, hk⟩
  have O1 : Obs w B ad a b h₀ := O.keeps hk
  have bn : B.get? s.heap.objs.size = none := by
    cases e : B.get? s.heap.objs.size with
    | none => rfl
    | some o => rw [O.stays _ _ e] at fresh; cases fresh
  have Fr : FrO ad B s.heap.objs.size (F.ps.zip xs).reverse h₀ :=
    ⟨⟨_, hn, fun y v e => by simpa using zip_look F.ps vs xs [] [] d (fun y v e => by cases e) y v (by simpa using e)⟩, bn, O.fresh⟩
  have sk1 : Stk (A.deeper (callEnv F.fd s.heap.objs.size F.a)) B (callEnv F.fd s.heap.objs.size F.a :: l) h₀ := by
    refine ⟨Around.frames_deeper sk.fr, ?_⟩
    exact .cons (by rw [ei.scp, ei.kind]; decide) ef hn bn ((Mv.of_keeps (W := []) kp).frames sk.fun_)
  have mvs : ∀ {s' : Shared}, Mv (s.heap.objs.size :: ad.ws) { s with heap := h₀, toks := s.toks + (F.ps.zip vs).length } s' → Mv ad.ws s s' := fun {s'} m =>
    (Mv.of_keeps (W := ad.ws) kp).trans m fun x o e n => ⟨n, fun hx => by
      rcases List.mem_cons.mp hx with q | q
      · rw [q, fresh] at e; cases e
      · exact n q⟩
  have run := i F.fd.scope F.body _ out he (A.deeper (callEnv F.fd s.heap.objs.size F.a)) (callEnv F.fd s.heap.objs.size F.a) s.heap.objs.size l
    { s with heap := h₀, toks := s.toks + (F.ps.zip vs).length } (c.deeper _) ei ef sk1 Fr O1
  cases out with
  | ret v st =>
    cases osome h1
    refine wpAny_mono run (fun fl s' h' => ?_) fun _ _ z => z.elim
    cases fl with
    | ret u => exact ⟨h'.1, h'.2.1, mvs h'.2.2⟩
    | _ => exact h'.elim
  | next st =>
    cases osome h1
    refine wpAny_mono run (fun fl s' h' => ?_) fun _ _ z => z.elim
    cases fl with
    | next => exact ⟨.none, h'.2.1, mvs h'.2.2⟩
    | _ => exact h'.elim
  | exc cls args =>
    cases osome h1
    refine wpAny_mono run (fun fl s' h' => h'.elim) fun e s' h' => ?_
    obtain ⟨ea, t, us, rfl, hs, ht, hb, dn, mu⟩ := h'
    refine hs.leaves (outer := l) sk1.fr ef fun h'' hfl up => ?_
    refine ⟨ea, t, us, rfl, hfl, ht.of_slots up, hb, dn, ?_⟩
    have := (Mv.of_keeps (W := s.heap.objs.size :: ad.ws) kp).thenU (W' := []) (mu.up up)
    exact this.mono fun x o e hx => by
      rcases List.mem_cons.mp hx with q | q
      · rw [q, fresh] at e; cases e
      · exact q
  | _ => cases h1
end
end Mine
end
/- S13 -/
section
open PySem PySem.W PyProof.Rows PySem.Calls Builtin Builtin.ObjectAttr
set_option Elab.async false
set_option linter.unusedVariables false
set_option linter.unusedSimpArgs false
namespace Mine
set_option maxRecDepth 100000

theorem MethodCallG {prog : Program} {w : World} {A : Around} {E : Value → Shared → Prop} {s : Shared} {env : Env} {o : Expr} {name : Str} {apos pos : Pos} {args : List Expr} {Q : Value → Shared → Prop}
    (hbase : attributeBase o name env (eval o env) = eval o env) (hall : (backTo pos (starEach args env)).all (fun x => !x.1) = true) (hlen : args.length < 20) (hline : (apos.endLine == pos.line) = true)
    (h : wpAny (model prog w) A (eval o env) (fun ov s₁ => ∀ pl, wpAny (model prog w) A (getMethod ov name pl) (fun fx s₂ => wpAny (model prog w) A (callWith pos fx.1 fx.2 (backTo pos (starEach args env)) []) Q E s₂) E s₁) E s) :
    wpAny (model prog w) A (eval (.Call (.Attribute o name apos) args [] pos) env) Q E s := by
  have hfew : ((backTo pos (starEach args env)).all (fun x => !x.1) && (backToKw pos (keywordEach [] env)).all (fun x => x.1.isSome)
      && decide (args.length + ([] : List Keyword).length + (if ([] : List Keyword).isEmpty then 0 else 1) < 30)) = true := by
    rw [hall]
    exact decide_eq_true (Nat.lt_of_lt_of_le hlen (by decide))
  rw [arm_eval_Call, hbase]
  refine wpAny_bind (wpAny_mono h (fun ov s₁ h₁ => ?_) fun _ _ e => e)
  refine wpAny_bind (wpAny_standAt ?_)
  have hform : methodCallForm (args.length + ([] : List Keyword).length) (backTo pos (starEach args env)) (backToKw pos (keywordEach [] env)) = true := hfew
  have hpos : methodCallPos true o env apos pos = pure pos := by unfold methodCallPos; simp [hline]
  unfold methodCall
  rw [hform]
  refine wpAny_bind (wpAny_holding (wpAny_mono (h₁ _) (fun fx s₂ h₂ => ?_) fun _ _ e => e))
  exact wpAny_bind (wpAny_of_eq hpos h₂)

/-- the text of a callee -/
inductive Callee.At : Callee → Option Pos → Expr → Prop where
  | fn (g : Str) (gp : Pos) : At (.fn g) none (.Name g gp)
  | meth (x m : Str) (px ap : Pos) : At (.meth x m) (some ap) (.Attribute (.Name x px) m ap)
  | meth2 (x y m : Str) (px py ap : Pos) : At (.meth2 x y m) (some ap) (.Attribute (.Attribute (.Name x px) y py) m ap)
theorem calleeAt_ok {e : Expr} {q : Callee × Option Pos} : calleeAt e = some q → q.1.At q.2 e :=
  onSome.ok (p := fun (q : Callee × Option Pos) => q.1.At q.2 e) (by cases e with
    | Name g p => exact .fn g p
    | Attribute o m ap => cases o with
      | Name x px => exact .meth x m px ap
      | Attribute o2 y py =>
        show onSome ((nameOf o2).bind fun x => some (Callee.meth2 x y m, some ap)) _
        cases q : nameOf o2 with
        | none => exact trivial
        | some x => obtain ⟨px, rfl⟩ := nameOf_ok q; exact .meth2 x y m px py ap
      | _ => exact trivial
    | _ => exact trivial)
theorem calleeOf_ok {e : Expr} {q : Callee × List Expr} (h : Mine.calleeOf e = some q) : ∃ fn ap cp, e = .Call fn q.2 [] cp ∧ q.1.At ap fn ∧ near ap cp q.2 = true := by
  obtain ⟨⟨fn, args, kws, cp⟩, h1, h2⟩ := obind h
  obtain ⟨⟨c, ap⟩, h3, h4⟩ := obind h2
  obtain ⟨⟨h5, h6⟩, h7⟩ := oif h4
  cases osome h7
  exact ⟨fn, ap, cp, (callOf_ok h1).trans (by rw [isEmpty_ok h5]), calleeAt_ok h3, h6⟩

section
variable {prog : Program} {w : World} {T : OTab} {B : Heap} {ad : Ad}

theorem QRes.after {s s₁ : Shared} {res : ORes} {u : Value} {s' : Shared} (k : Keeps s s₁) (h : QRes w B ad s₁ res u s') : QRes w B ad s res u s' := by
  cases res with
  | ret v a b => exact ⟨h.1, h.2.1, (Mv.of_keeps k).tr h.2.2⟩
  | exc cls as => exact h.elim
theorem ERes.after {s s₁ : Shared} {l : List Env} {res : ORes} {u : Value} {s' : Shared} (k : Keeps s s₁) (h : ERes B ad l s₁ res u s') : ERes B ad l s res u s' := by
  cases res with
  | ret v a b => exact h.elim
  | exc cls as =>
    obtain ⟨ea, t, vs, h1, h2, h3, h4, h5, h6⟩ := h
    exact ⟨ea, t, vs, h1, h2, h3, h4, h5, (Mv.of_keeps k).thenU (W' := []) h6⟩

/-- a call of a function with arguments already in hand -/
theorem meth_run {n : Nat} (TO : TabO w B T) (i4 : CallO prog w T B ad n) {sc : Scope} {st : OS} {A : Around} {env : Env} {L : Addr} {outer : List Env} {s : Shared} {args : List Expr} {xs fs : List OV} {us : List Value} {pos : Pos} {F : Fn} {res : ORes}
    (c : Cx A (n + 3)) (ei : EnvIs env sc L) (sk : Stk A B (env :: outer) s.heap) (Fr : FrO ad B L st.l s.heap) (O : Obs w B ad st.a st.b s.heap) (d : ∀ {vs ys}, DenOs ad vs ys → DenOs ad (us ++ vs) (fs ++ ys))
    (fo : FnO w F) (fa : FnAt B F) (ha : oes T sc n args st = some xs) (h : ocall T n F (fs ++ xs) st.a st.b = some res) :
    wpAny (model prog w) A (callWith pos (.ref F.a) us (backTo pos (starEach args env)) []) (QRes w B ad s res) (ERes B ad (env :: outer) s res) s := by
  obtain ⟨ob, ho, hd, _⟩ := fa.obj
  cases args with
  | nil =>
    cases osome ha
    refine callWith_meth0 hd (O.stays _ _ ho) ?_
    have := i4 F _ _ _ _ fo fa h A (env :: outer) s _ c sk O (d .nil)
    rwa [List.append_nil] at this
  | cons e es =>
    refine callWith_meth (h₀ := s.heap) hd (O.stays _ _ ho) (wpAny_mono (oes_ok TO c ei ha Fr O) (fun vs s₁ h₁ => ⟨kp_heap h₁.1, ?_⟩) fun _ _ z => z) (oes_first ha env)
    exact wpAny_mono (i4 F _ _ _ _ fo fa h A (env :: outer) s₁ _ c (sk.mv (Mv.of_keeps (W := []) h₁.1)) (O.mv h₁.1) (d h₁.2)) (fun v s₂ h₂ => h₂.after h₁.1) fun e s₂ h₂ => h₂.after h₁.1
/-- a method, found and called -/
theorem meth_ok {n : Nat} (TO : TabO w B T) (i4 : CallO prog w T B ad n) {sc : Scope} {st : OS} {A : Around} {env : Env} {L : Addr} {outer : List Env} {s : Shared} {o : OV} {ov : Value} {m : Str} {args : List Expr} {xs : List OV} {pos : Pos} {q : Fn × List OV} {res : ORes} {pl : Sem Bool}
    (c : Cx A (n + 3)) (ei : EnvIs env sc L) (sk : Stk A B (env :: outer) s.heap) (Fr : FrO ad B L st.l s.heap) (O : Obs w B ad st.a st.b s.heap) (d : DenO ad ov o)
    (hF : fstM T st o m = some q) (ha : oes T sc n args st = some xs) (h : ocall T n q.1 (q.2 ++ xs) st.a st.b = some res) :
    wpAny (model prog w) A (getMethod ov m pl) (fun fx s₂ => wpAny (model prog w) A (callWith pos fx.1 fx.2 (backTo pos (starEach args env)) []) (QRes w B ad s res) (ERes B ad (env :: outer) s res) s₂) (ERes B ad (env :: outer) s res) s := by
  cases o with
  | lex =>
    obtain ⟨F, hf, h1⟩ := obind hF
    cases osome h1
    cases d.inv_lex
    obtain ⟨h1, h2, h3, fo, fa⟩ := TO.lex m F hf
    refine method_R O.frag (lexOk w) O.ix h1 h2 ?_ (meth_run (fs := [.lex]) TO i4 c ei sk Fr O (fun e => .cons d e) fo fa ha h)
    cases q : (st.a.map (·.1)).contains m with
    | false => rfl
    | true => have := O.na m (by simpa using q); rw [h3] at this; cases this
  | strm =>
    obtain ⟨F, hf, h1⟩ := obind hF
    obtain ⟨h0, h1⟩ := oif h1
    cases osome h1
    cases d.inv_strm
    obtain ⟨b, hb⟩ := Option.isSome_iff_exists.mp h0
    obtain ⟨h1, h2, h3, fo, fa⟩ := TO.strm m F hf
    refine method_R O.frag (strmOk w) (O.iy b hb).1 h1 h2 ?_ (meth_run (fs := [.strm]) TO i4 c ei sk Fr O (fun e => .cons d e) fo fa ha h)
    cases q : (b.map (·.1)).contains m with
    | false => rfl
    | true => have := O.nb b hb m (by simpa using q); rw [h3] at this; cases this
  | _ => cases hF
theorem near_ok {ap cp : Pos} {args : List Expr} (h : near (some ap) cp args = true) : args.length < 20 ∧ (ap.endLine == cp.line) = true := by
  obtain ⟨h1, h2⟩ := Bool.and_eq_true_iff.mp h
  exact ⟨of_decide_eq_true h2, h1⟩

theorem rv_succO {n : Nat} (TO : TabO w B T) (i4 : CallO prog w T B ad n) : RvO prog w T B ad (n + 1) := by
  intro sc e st res h A env L outer s c0 ei sk F O
  have c : Cx A (n + 3) := c0.mono (Nat.le_succ _)
  have h : (match ownO T sc e st with
    | some q => (oes T sc n q.2 st).bind fun xs => ocall T n q.1.1 (q.1.2 ++ xs) st.a st.b
    | none => (oe T sc n e st).bind fun v => some (.ret v st.a st.b)) = some res := h
  cases ho : ownO T sc e st with
  | none =>
    rw [ho] at h
    obtain ⟨v, hv, h1⟩ := obind h
    cases osome h1
    exact wpAny_mono ((evAllO TO n).1 e st v hv A env L s _ c ei F O) (fun u s₁ h₁ => ⟨h₁.2, O.mv h₁.1, Mv.of_keeps h₁.1⟩) fun _ _ z => z
  | some q =>
    rw [ho] at h
    obtain ⟨xs, hxs, h1⟩ := obind h
    obtain ⟨⟨cl, args⟩, hc, h2⟩ := obind ho
    obtain ⟨q2, hf, h3⟩ := obind h2
    cases osome h3
    obtain ⟨fn, ap, cp, rfl, hat, hn⟩ := calleeOf_ok hc
    cases hat with
    | fn g gp =>
      obtain ⟨hg, h4⟩ := oif hf
      obtain ⟨F2, hF2, h5⟩ := obind h4
      cases osome h5
      obtain ⟨mg, mb, hg1, hb1, _, _, hfn, _⟩ := TO.names
      obtain ⟨hd, fo, fa⟩ := TO.fn g _ hF2
      exact Call_ (nameG_ok hg hd hg1 hb1 (.inl (hfn g _ hF2)) ei O.stays (meth_run (fs := []) TO i4 c ei sk F O (fun e => e) fo fa hxs h1))
    | meth x m px ap =>
      obtain ⟨o, ho, h4⟩ := obind hf
      obtain ⟨ha, hl⟩ := near_ok hn
      refine MethodCallG rfl (oes_plain hxs) ha hl (wpAny_mono (locO_ev ho ei F) (fun ov s₁ h₁ pl => ?_) fun _ _ z => z)
      obtain ⟨rfl, d⟩ := h₁
      exact meth_ok TO i4 c ei sk F O d h4 hxs h1
    | meth2 x y m px py ap =>
      obtain ⟨o, ho, h4⟩ := obind hf
      obtain ⟨o2, hat, h5⟩ := obind h4
      obtain ⟨ha, hl⟩ := near_ok hn
      refine MethodCallG rfl (oes_plain hxs) ha hl (Attribute_name (wpAny_mono (locO_ev ho ei F) (fun ov s₁ h₁ => ?_) fun _ _ z => z))
      obtain ⟨rfl, d⟩ := h₁
      refine wpAny_mono (attr_ok (c.mono (Nat.le_add_left ..)) hat d O) (fun ov2 s₂ h₂ pl => ?_) fun _ _ z => z
      obtain ⟨k2, d2⟩ := h₂
      exact wpAny_mono (meth_ok TO i4 c ei (sk.mv (Mv.of_keeps (W := []) k2)) (F.keeps k2) (O.mv k2) d2 h5 hxs h1)
        (fun fx s₃ h₃ => wpAny_mono h₃ (fun v s₄ h₄ => h₄.after k2) fun e s₄ h₄ => h₄.after k2) fun e s₃ h₃ => h₃.after k2
end
end Mine
end
/- S14 -/
section
open PySem PySem.W PyProof.Rows PySem.Calls Builtin Builtin.ObjectAttr
set_option Elab.async false
set_option linter.unusedVariables false
set_option linter.unusedSimpArgs false
namespace Mine
set_option maxRecDepth 100000
section
variable {prog : Program} {w : World} {T : OTab} {B : Heap} {ad : Ad}

theorem Obs.mvL {s s' : Shared} {a : Attrs} {b : Option Attrs} {L : Addr} {l : Attrs} (O : Obs w B ad a b s.heap) (F : FrO ad B L l s.heap) (m : Mv [L] s s') : Obs w B ad a b s'.heap := by
  obtain ⟨oL, hL, es, ep, dL⟩ := F.here
  have ne : ∀ x o, s.heap.get? x = some o → (∀ es ep, o.data ≠ .dict es ep) → x ∉ [L] := fun x o e nd hx => by
    rw [List.mem_singleton.mp hx, hL] at e; cases e; exact nd _ _ dL
  have nx : ad.dx ∉ [L] := fun hx => F.out (by rw [← List.mem_singleton.mp hx]; exact List.mem_cons_self ..)
  have ny : ad.dy ∉ [L] := fun hx => F.out (by rw [← List.mem_singleton.mp hx]; exact List.mem_cons_of_mem _ (List.mem_singleton_self _))
  refine ⟨O.ix.keeps fun b o hb e => ?_, fun l' e => ⟨(O.iy l' e).1.keeps fun b o hb e' => ?_, (O.iy l' e).2⟩, fun d hd => ?_, m.stays O.stays fun x hx => by rw [List.mem_singleton.mp hx]; exact F.new, O.newX, O.newY, O.found, O.lim, O.nd, O.up, O.na, O.nb⟩
  · rcases hb with rfl | rfl
    · exact m.keep _ _ (ne _ _ O.ix.obj fun _ _ z => by cases z) e
    · exact m.keep _ _ nx e
  · rcases hb with rfl | rfl
    · exact m.keep _ _ (ne _ _ (O.iy l' e).1.obj fun _ _ z => by cases z) e'
    · exact m.keep _ _ ny e'
  · obtain ⟨o, ho, hc, vs, hv, hz⟩ := O.dq d hd
    exact ⟨o, m.keep _ _ (ne _ _ ho fun _ _ z => by rw [hv] at z; cases z) ho, hc, vs, hv, hz⟩

theorem storeO {A : Around} {env : Env} {L : Addr} {l : Attrs} {s : Shared} {E : Value → Shared → Prop} {sc : Scope} {x : Str} {u : Value} {v : OV} (hx : sc.names.lookup x = some .local) (ei : EnvIs env sc L) (F : FrO ad B L l s.heap) (d : DenO ad u v) :
    wpAny (model prog w) A (storeName env x u) (fun _ s' => FrO ad B L ((x, v) :: l) s'.heap ∧ Mv [L] s s') E s := by
  obtain ⟨m, hm, hl⟩ := F.ns
  refine wpAny_storeName_local (m := m) ?_ (by rw [ei.loc]; exact hm) (fun h' hn hs => ?_) ?_
  · show env.scope.names.lookup x = _; rw [ei.scp]; exact hx
  · rw [ei.loc] at hn hs
    refine ⟨⟨⟨_, hn, fun y q e => ?_⟩, F.new, F.out⟩, Mv.set hn hs⟩
    rw [List.lookup_cons] at e
    by_cases z : y = x
    · subst z
      simp only [beq_self_eq_true] at e
      cases e
      exact ⟨u, by simp, d⟩
    · rw [beq_eq_false_iff_ne.mpr z] at e
      obtain ⟨u', a', b'⟩ := hl y q e
      exact ⟨u', by rw [if_neg z]; exact a', b'⟩
  · rw [ei.scp, ei.kind]; rfl

theorem setO_ok {A : Around} {s : Shared} {E : Value → Shared → Prop} {st st' : OS} {o v : OV} {ov u : Value} {m : Str} (h : setO st o m v = some st') (d : DenO ad ov o) (du : DenO ad u v) (O : Obs w B ad st.a st.b s.heap) :
    wpAny (model prog w) A (setAttr ov m u) (fun _ s' => Obs w B ad st'.a st'.b s'.heap ∧ Mv ad.ws s s' ∧ st'.l = st.l) E s := by
  cases o with
  | lex =>
    obtain ⟨q, h1⟩ := oif h
    cases osome h1
    cases d.inv_lex
    refine store_R O.frag (lexOk w) O.ix q.1 du q.2 fun s' I' mv => ?_
    have mw : Mv ad.ws s s' := mv.mono fun x o e hx => by rw [List.mem_singleton.mp hx]; exact List.mem_cons_self ..
    refine ⟨⟨I', fun l e => ⟨(O.iy l e).1.keeps fun b o hb e' => ?_, (O.iy l e).2⟩, fun d hd => ?_, mv.stays O.stays fun x hx => by rw [List.mem_singleton.mp hx]; exact O.newX, O.newX, O.newY, O.found, O.lim, O.nd, O.up, fun n hn => ?_, O.nb⟩, mw, rfl⟩
    · refine mv.keep b o (fun hx => ?_) e'
      rw [List.mem_singleton.mp hx] at hb
      rcases hb with hb | hb
      · obtain ⟨m', ⟨o1, es, ep, e1, e2, _⟩, _⟩ := O.ix.ns
        have := (O.iy l e).1.obj
        rw [← hb, e1] at this; cases this; cases e2
      · exact (O.iy l e).2 hb
    · obtain ⟨o, ho, hc, vs, hv, hz⟩ := O.dq d hd
      refine ⟨o, mv.keep _ _ (fun hx => ?_) ho, hc, vs, hv, hz⟩
      obtain ⟨m', ⟨o1, es, ep, e1, e2, _⟩, _⟩ := O.ix.ns
      rw [List.mem_singleton.mp hx, e1] at ho; cases ho; rw [e2] at hv; cases hv
    · rcases mem_putA.mp hn with rfl | hn
      · exact q.1
      · exact O.na n hn
  | strm =>
      obtain ⟨q, h1⟩ := oif h
      obtain ⟨b, hb, h2⟩ := obind h1
      obtain ⟨hz, h3⟩ := oif h2
      cases osome h3
      cases d.inv_strm
      obtain ⟨Iy, hne⟩ := O.iy b hb
      refine store_R O.frag (strmOk w) Iy q du hz fun s' I' mv => ?_
      have mw : Mv ad.ws s s' := mv.mono fun x o e hx => by rw [List.mem_singleton.mp hx]; exact List.mem_cons_of_mem _ (List.mem_singleton_self _)
      refine ⟨⟨O.ix.keeps fun b o hb e' => ?_, fun l e => ?_, fun d hd => ?_, mv.stays O.stays fun x hx => by rw [List.mem_singleton.mp hx]; exact O.newY, O.newX, O.newY, O.found, O.lim, (fun z => by cases z), O.up, O.na, fun l e n hn => ?_⟩, mw, rfl⟩
      · refine mv.keep _ _ (fun hx => ?_) e'
        rw [List.mem_singleton.mp hx] at hb
        rcases hb with hb | hb
        · obtain ⟨m', ⟨o1, es, ep, e1, e2, _⟩, _⟩ := Iy.ns
          have := O.ix.obj
          rw [← hb, e1] at this; cases this; cases e2
        · exact hne hb.symm
      · cases e; exact ⟨I', hne⟩
      · obtain ⟨o, ho, hc, vs, hv, hz⟩ := O.dq d hd
        refine ⟨o, mv.keep _ _ (fun hx => ?_) ho, hc, vs, hv, hz⟩
        obtain ⟨m', ⟨o1, es, ep, e1, e2, _⟩, _⟩ := Iy.ns
        rw [List.mem_singleton.mp hx, e1] at ho; cases ho; rw [e2] at hv; cases hv
      · cases e
        rcases mem_putA.mp hn with rfl | hn
        · exact q
        · exact O.nb b hb n hn
  | _ => cases h
end
end Mine
end
/- S15 -/
section
open PySem PySem.W PyProof.Rows PySem.Calls Builtin Builtin.ObjectAttr
set_option Elab.async false
set_option linter.unusedVariables false
set_option linter.unusedSimpArgs false
namespace Mine
set_option maxRecDepth 100000
section
variable {prog : Program} {w : World} {T : OTab} {B : Heap} {ad : Ad}

theorem At_swap {c : Callee} {ap : Option Pos} {e : Expr} (h : c.At ap e) (args : List Expr) (cp : Pos) (t : Option Expr) (l : Nat) (env : Env) : swapsWith (.Call e args [] cp) t l env = pure false := by
  cases h <;> rfl
theorem rv_swap {sc : Scope} {n : Nat} {e : Expr} {st : OS} {r : ORes} (h : orv T sc n e st = some r) (t : Option Expr) (l : Nat) (env : Env) : swapsWith e t l env = pure false := by
  cases n with
  | zero => cases h
  | succ n =>
    have h : (match ownO T sc e st with
      | some q => (oes T sc n q.2 st).bind fun xs => ocall T n q.1.1 (q.1.2 ++ xs) st.a st.b
      | none => (oe T sc n e st).bind fun v => some (.ret v st.a st.b)) = some r := h
    cases ho : ownO T sc e st with
    | none =>
      rw [ho] at h
      obtain ⟨v, hv, h1⟩ := obind h
      exact oe_swap hv t l env
    | some q =>
      obtain ⟨c, hc, _⟩ := obind ho
      obtain ⟨fn, ap, cp, rfl, hat, _⟩ := calleeOf_ok hc
      exact At_swap hat _ _ t l env

theorem sout_mv {L : Addr} {s s₁ : Shared} {out : OOut} {fl : Flow} {s' : Shared} (m : Mv (L :: ad.ws) s s₁) (h : SOutO w B ad L s₁ out fl s') : SOutO w B ad L s out fl s' := by
  cases out <;> cases fl <;> first | exact h.elim | exact ⟨h.1, h.2.1, m.tr h.2.2⟩
theorem eout_mv {L : Addr} {l : List Env} {s s₁ : Shared} {out : OOut} {e : Value} {s' : Shared} (m : Mv (L :: ad.ws) s s₁) (h : EOutO B ad l L s₁ out e s') : EOutO B ad l L s out e s' := by
  cases out <;> try exact h.elim
  obtain ⟨ea, t, vs, h1, h2, h3, h4, h5, h6⟩ := h
  exact ⟨ea, t, vs, h1, h2, h3, h4, h5, m.thenU (W' := []) h6⟩
theorem exc_of_fly {L : Addr} {l : List Env} {cls : String} {args : List OV} {s : Shared} {e : Value} {s' : Shared} (h : FlyO B ad l cls args ad.ws s e s') : ExcO B ad l L cls args (L :: ad.ws) s e s' := by
  obtain ⟨ea, t, vs, h1, h2, h3, h4, h5, h6⟩ := h
  exact ⟨ea, t, vs, h1, ⟨h2.1, h2.2.1, h2.2.2.1, .inr (.inl h2.2.2.2)⟩, h3, h4, h5, h6.mono fun x o _ hx => List.mem_cons_of_mem _ hx⟩
theorem wsL {L : Addr} {s s' : Shared} (m : Mv ad.ws s s') : Mv (L :: ad.ws) s s' := m.mono fun x o _ hx => List.mem_cons_of_mem _ hx
theorem mvL1 {L : Addr} {s s' : Shared} (m : Mv [L] s s') : Mv (L :: ad.ws) s s' := m.mono fun x o _ hx => by rw [List.mem_singleton.mp hx]; exact List.mem_cons_self ..

theorem made_exc {A : Around} {L : Addr} {l : List Env} {cls : String} {vs : List Value} {args : List OV} {s : Shared} {h' : Heap} {e : Addr} {tk : Nat} {s₀ : Shared} (k : Mv (L :: ad.ws) s₀ s) (sk : Stk A B l s.heap) (st : B.StaysIn s.heap) (hm : Heap.MadeExc s.heap h' e cls vs) (d : DenOs ad vs args) :
    ExcO B ad l L cls args (L :: ad.ws) s₀ (.ref e) { s with heap := h' } := by
  obtain ⟨t, he, ht, htt⟩ := hm.there
  have bnone : ∀ b, s.heap.get? b = none → B.get? b = none := fun b hb => by
    cases q : B.get? b with
    | none => rfl
    | some o => rw [st b o q] at hb; cases hb
  have k2 : Keeps s { s with heap := h' } := ⟨h', s.toks, rfl, hm.keeps⟩
  refine ⟨e, t, vs, rfl, ⟨fun b o q => hm.keeps b o (st b o q), bnone e hm.new, (Mv.of_keeps (W := []) k2).frames sk.fun_, .inl ⟨_, _, he, rfl, rfl, rfl, rfl⟩⟩, ⟨_, _, htt, rfl, rfl⟩, bnone t ht, d, (k.tr (Mv.of_keeps k2)).u⟩

theorem owl_ok {N : Nat} (TO : TabO w B T) (iss : ∀ m, m ≤ N → OxsO prog w T B ad m) {sc : Scope} {t : Expr} {body : List Stmt} {env : Env} {A : Around} {L : Addr} {outer : List Env} {s : Shared} {st : OS} {out : OOut} {R : Result → Shared → Prop}
    (c : Cx A (N + 3)) (ei : EnvIs env sc L) (ef : env.frame = some L) (sk : Stk A B (env :: outer) s.heap) (F : FrO ad B L st.l s.heap) (O : Obs w B ad st.a st.b s.heap) (h : owl T sc N t body st = some out)
    (hR : ∀ fl s', SOutO w B ad L s out fl s' → R (.ok fl) s') : codeAny (model prog w) A (.whileLoop t body [] env) R s := by
  refine codeAny_whileLoop (fun k s' => ∃ st', k ≤ N ∧ owl T sc k t body st' = some out ∧ FrO ad B L st'.l s'.heap ∧ Obs w B ad st'.a st'.b s'.heap ∧ Mv (L :: ad.ws) s s') (fun k s' hJ => ?_) N
    ⟨st, Nat.le_refl _, h, F, O, Mv.refl _ _⟩
  obtain ⟨st', hk, hl, F', O', mv⟩ := hJ
  have sk' := sk.mv mv
  cases k with
  | zero => simp [owl] at hl
  | succ k =>
  obtain ⟨cv, ht, h1⟩ := obind hl
  refine wpAny_mono ((evAllO TO k).2 t st' cv ht A env L s' _ (c.mono (by omega)) ei F' O') (fun b s₁ h₁ => ?_) fun _ _ z => z
  obtain ⟨rfl, k1⟩ := h₁
  cases b with
  | false =>
    cases osome h1
    exact wpAny_execs_nil (hR .next s₁ ⟨F'.keeps k1, O'.mv k1, mv.tr (Mv.of_keeps k1)⟩)
  | true =>
    have mv1 := mv.tr (Mv.of_keeps (W := L :: ad.ws) k1)
    obtain ⟨o, he, h2⟩ := obind h1
    have bodyOk := iss k (by omega) sc body st' o he A env L outer s₁ (c.mono (by omega)) ei ef (sk.mv mv1) (F'.keeps k1) (O'.mv k1)
    cases o with
    | next st3 =>
      refine wpAny_mono bodyOk (fun fl s₃ h₃ => ?_) fun _ _ z => z.elim
      cases fl with
      | next => exact ⟨k, Nat.lt_succ_self k, st3, by omega, h2, h₃.1, h₃.2.1, mv1.tr h₃.2.2⟩
      | _ => exact h₃.elim
    | cont st3 =>
      refine wpAny_mono bodyOk (fun fl s₃ h₃ => ?_) fun _ _ z => z.elim
      cases fl with
      | cont => exact ⟨k, Nat.lt_succ_self k, st3, by omega, h2, h₃.1, h₃.2.1, mv1.tr h₃.2.2⟩
      | _ => exact h₃.elim
    | brk st3 =>
      cases osome h2
      refine wpAny_mono bodyOk (fun fl s₃ h₃ => ?_) fun _ _ z => z.elim
      cases fl with
      | brk => exact hR .next s₃ ⟨h₃.1, h₃.2.1, mv1.tr h₃.2.2⟩
      | _ => exact h₃.elim
    | ret v st3 =>
      cases osome h2
      refine wpAny_mono bodyOk (fun fl s₃ h₃ => ?_) fun _ _ z => z.elim
      cases fl with
      | ret u => exact hR _ s₃ ⟨h₃.1, h₃.2.1, mv1.tr h₃.2.2⟩
      | _ => exact h₃.elim
    | exc _ _ => cases h2

theorem oxs_succO {n : Nat} (i1 : OxO prog w T B ad n) (i2 : OxsO prog w T B ad n) : OxsO prog w T B ad (n + 1) := by
  intro sc sts st out h A env L outer s c ei ef sk F O
  cases sts with
  | nil =>
    cases osome h
    exact wpAny_execs_nil ⟨F, O, Mv.refl _ _⟩
  | cons sm r =>
    obtain ⟨o, hf, h1⟩ := obind h
    have c1 := c.mono (Nat.le_succ _)
    refine wpAny_execs_cons (wpAny_mono (i1 sc sm st _ hf A env L outer s c1 ei ef sk F O) (fun fl s₁ h₁ => ?_) fun e s₁ h₁ => ?_)
    · cases o with
      | next st' =>
        cases fl with
        | next =>
          obtain ⟨F', O', mv⟩ := h₁
          exact wpAny_mono (i2 sc r st' out h1 A env L outer s₁ c1 ei ef (sk.mv mv) F' O') (fun fl s₂ h₂ => sout_mv mv h₂) fun e s₂ h₂ => eout_mv mv h₂
        | _ => exact h₁.elim
      | _ =>
        cases osome h1
        cases fl with
        | next => exact h₁.elim
        | _ => exact h₁
    · cases o with
      | exc _ _ => cases osome h1; exact h₁
      | _ => exact h₁.elim
end
end Mine
end
/- S16 -/
section
open PySem PySem.W PyProof.Rows PySem.Calls Builtin Builtin.ObjectAttr
set_option Elab.async false
set_option linter.unusedVariables false
set_option linter.unusedSimpArgs false
namespace Mine
set_option maxRecDepth 100000
section
variable {prog : Program} {w : World} {T : OTab} {B : Heap} {ad : Ad}

/-- a right side, kept or flown by -/
theorem onRes_ok {r : ORes} {k : OV → Attrs → Option Attrs → Option OOut} {x : Bool} {out : OOut} (h : onRes r k x = some out) : (∃ v a b, r = .ret v a b ∧ k v a b = some out) ∨ ∃ c as, r = .exc c as ∧ x = true ∧ out = .exc c as := by
  cases r with
  | ret v a b => exact .inl ⟨v, a, b, rfl, h⟩
  | exc c as => obtain ⟨q, h⟩ := oif h; exact .inr ⟨c, as, rfl, q, (osome h).symm⟩
theorem isSome_ok {α : Type} {o : Option α} (h : o.isSome = true) : ∃ a, o = some a := by
  cases o with
  | none => cases h
  | some a => exact ⟨a, rfl⟩
/-- what is set as an attribute of a name -/
theorem asg_attr {A : Around} {env : Env} {L : Addr} {s s₀ : Shared} {E : Value → Shared → Prop} {sc : Scope} {st st' : OS} {x m : Str} {px : Pos} {o v : OV} {u : Value} (ei : EnvIs env sc L) (F : FrO ad B L st.l s.heap) (O : Obs w B ad st.a st.b s.heap) (mv : Mv (L :: ad.ws) s₀ s)
    (ho : locO sc st x = some o) (hs : setO st o m v = some st') (d : DenO ad u v) :
    wpAny (model prog w) A (eval (.Name x px) env) (fun ov s₂ => wpAny (model prog w) A (setAttr ov m u) (fun _ s₃ => SOutO w B ad L s₀ (.next st') .next s₃) E s₂) E s := by
  refine wpAny_mono (locO_ev ho ei F) (fun ov s₂ h₂ => ?_) fun _ _ z => z
  obtain ⟨rfl, dv⟩ := h₂
  refine wpAny_mono (setO_ok hs dv d O) (fun _ s₃ h₃ => ?_) fun _ _ z => z
  obtain ⟨O2, mv2, hl⟩ := h₃
  exact ⟨by rw [hl]; exact F.mv mv2, O2, mv.tr (wsL mv2)⟩
theorem raise_okO (TO : TabO w B T) {sc : Scope} {A : Around} {env : Env} {L : Addr} {outer : List Env} {s : Shared} {e : Expr} {out : OOut} {pos : Pos} {n : Nat} (c : Cx A n) (ei : EnvIs env sc L) (sk : Stk A B (env :: outer) s.heap) (st : B.StaysIn s.heap) (h : raiseO sc e = some out) :
    wpAny (model prog w) A (exec (.Raise (some e) none pos) env) (SOutO w B ad L s out) (EOutO B ad (env :: outer) L s out) s := by
  obtain ⟨mg, mb, hg, hb, _, _, _, hx⟩ := TO.names
  have h : (match nameOf e with
    | some x => if (x == ("StopIteration" : Str)) = true ∧ sc.names.lookup x = some .globalImplicit then some (.exc "StopIteration" []) else none
    | none => (strCall e).bind fun p => if (p.1 == ("ValueError" : Str)) = true ∧ sc.names.lookup p.1 = some .globalImplicit then some (.exc "ValueError" [.str p.2 p.2.length]) else none) = some out := h
  cases hx1 : nameOf e with
  | some x =>
    rw [hx1] at h
    obtain ⟨px, rfl⟩ := nameOf_ok hx1
    obtain ⟨⟨q1, q2⟩, h1⟩ := oif h
    cases osome h1
    obtain rfl := eq_of_beq q1
    exact owsi_raiseC c.hand (nameG_ok q2 (by decide +kernel) hg hb (.inr (hx "StopIteration" (.inr rfl))) ei st ⟨rfl, rfl⟩) fun h' e hm => made_exc (Mv.refl _ _) sk st hm .nil (tk := s.toks)
  | none =>
    rw [hx1] at h
    obtain ⟨⟨x, m⟩, hx1, h1⟩ := obind h
    obtain ⟨⟨q1, q2⟩, h2⟩ := oif h1
    cases osome h2
    obtain ⟨px, k, kp, cp, rfl⟩ := strCall_ok hx1
    have q2 : sc.names.lookup x = some .globalImplicit := q2
    obtain rfl : x = ("ValueError" : Str) := eq_of_beq q1
    refine Raise_madeB PySem.F.excCall_ValueError PySem.F.excRaise_ValueError c.hand (nameG_ok q2 (show (("ValueError" : Str) == ("__debug__" : Str)) = false by decide +kernel) hg hb (.inr (hx "ValueError" (.inl rfl))) ei st ⟨rfl, ?_⟩) rfl rfl
    refine args_cons ?_ rfl
    rw [eval_Constant]
    refine wpAny_mkText (spliced_nil ⟨by rw [sizeLine_eq]; simp, fun h' e hm => ?_⟩)
    exact made_exc (s := { s with toks := s.toks + 1 }) (Mv.tok _) ⟨sk.fr, sk.fun_⟩ st hm (.cons (.str (Nat.le_refl _)) .nil) (tk := s.toks)

theorem ox_succO {n : Nat} (TO : TabO w B T) (irv : RvO prog w T B ad n) (iss : ∀ m, m ≤ n → OxsO prog w T B ad m) : OxO prog w T B ad (n + 1) := by
  intro sc sm st out h A env L outer s c ei ef sk F O
  have hi : interactive env = false := by unfold interactive; rw [ei.scp, ei.kind]; rfl
  have c1 : Cx A (n + 3) := c.mono (Nat.le_succ _)
  have rv : ∀ {e q}, orv T sc n e st = some q → wpAny (model prog w) A (eval e env) (QRes w B ad s q) (ERes B ad (env :: outer) s q) s := fun hq => irv sc _ st _ hq A env L outer s c1 ei sk F O
  have fly : ∀ {e cl as} {Q : Value → Shared → Prop}, orv T sc n e st = some (.exc cl as) → wpAny (model prog w) A (eval e env) Q (EOutO B ad (env :: outer) L s (.exc cl as)) s := fun hq => wpAny_mono (rv hq) (fun _ _ z => z.elim) fun _ _ z => exc_of_fly z
  cases sm with
  | Return v pos =>
    obtain ⟨e, rfl, h1⟩ := obind h
    obtain ⟨v, hv, h2⟩ := obind h1
    cases osome h2
    exact wpAny_Return_some (wpAny_mono ((evAllO TO n).1 e st v hv A env L s _ c1 ei F O) (fun u s₁ h₁ => ⟨h₁.2, O.mv h₁.1, Mv.of_keeps h₁.1⟩) fun _ _ z => z)
  | Break pos => cases osome h; exact wpAny_Break ⟨F, O, Mv.refl _ _⟩
  | Continue pos => cases osome h; exact wpAny_Continue ⟨F, O, Mv.refl _ _⟩
  | If t b o pos =>
    obtain ⟨cv, ht, hb⟩ := obind h
    refine wpAny_If (wpAny_mono ((evAllO TO n).2 t st cv ht A env L s _ c1 ei F O) (fun q s₁ h₁ => ?_) fun _ _ z => z)
    obtain ⟨rfl, k⟩ := h₁
    have mv : Mv (L :: ad.ws) s s₁ := Mv.of_keeps k
    have go : ∀ {b}, oxs T sc n b st = some out → wpAny (model prog w) A (execs b env) (SOutO w B ad L s out) (EOutO B ad (env :: outer) L s out) s₁ := fun hb =>
      wpAny_mono (iss n (Nat.le_refl _) sc _ st out hb A env L outer s₁ c1 ei ef (sk.mv mv) (F.keeps k) (O.mv k)) (fun fl s₂ h₂ => sout_mv mv h₂) fun e s₂ h₂ => eout_mv mv h₂
    cases q <;> exact go hb
  | While t body orelse pos =>
    obtain ⟨q, h1⟩ := oif h
    cases isEmpty_ok q
    exact wpAny_While (owl_ok TO iss c1 ei ef sk F O h1 fun fl s' h' => h')
  | Expr e pos =>
    obtain ⟨q, hr, h1⟩ := obind h
    rcases onRes_ok h1 with ⟨v, a, b, rfl, h2⟩ | ⟨cl, as, rfl, _, rfl⟩
    · cases osome h2
      exact wpAny_Expr_any (wpAny_mono (rv hr) (fun u s₁ h₁ => ⟨F.mv h₁.2.2, h₁.2.1, wsL h₁.2.2⟩) fun _ _ z => z.elim) hi (rv_swap hr _ _ _)
    · exact wpAny_Expr_any (fly hr) hi (rv_swap hr _ _ _)
  | Assign ts e pos =>
    obtain ⟨t, ht, h0⟩ := obind h
    cases one_ok ht
    obtain ⟨q, hr, h1⟩ := obind h0
    rcases onRes_ok h1 with ⟨v, a, b, rfl, h2⟩ | ⟨cl, as, rfl, hx, rfl⟩
    · have h2 : (match nameOf t with
        | some x => if sc.names.lookup x = some .local then some (.next ⟨(x, v) :: st.l, a, b⟩) else none
        | none => (attrOf t).bind fun p => (locO sc ⟨st.l, a, b⟩ p.1).bind fun o => (setO ⟨st.l, a, b⟩ o p.2 v).bind fun st' => some (.next st')) = some out := h2
      cases hx : nameOf t with
      | some x =>
        rw [hx] at h2
        obtain ⟨px, rfl⟩ := nameOf_ok hx
        obtain ⟨hl, h3⟩ := oif h2
        cases osome h3
        refine wpAny_Assign_Name (wpAny_mono (rv hr) (fun u s₁ h₁ => ?_) fun _ _ z => z.elim) (rv_swap hr _ _ _)
        obtain ⟨d, O1, mv⟩ := h₁
        have F1 := F.mv mv
        exact wpAny_mono (storeO hl ei F1 d) (fun _ s₂ h₂ => ⟨h₂.1, O1.mvL F1 h₂.2, (wsL mv).tr (mvL1 h₂.2)⟩) fun _ _ z => z
      | none =>
        rw [hx] at h2
        obtain ⟨⟨x, m⟩, hx, h3⟩ := obind h2
        obtain ⟨o, ho, h4⟩ := obind h3
        obtain ⟨st', hs, h5⟩ := obind h4
        cases osome h5
        obtain ⟨px, p, rfl⟩ := attrOf_ok hx
        refine plainObj_wpAny_Assign_Attribute (wpAny_mono (rv hr) (fun u s₁ h₁ => ?_) fun _ _ z => z.elim) (rv_swap hr _ _ _)
        obtain ⟨d, O1, mv⟩ := h₁
        exact asg_attr (st := ⟨st.l, a, b⟩) ei (F.mv mv) O1 (wsL mv) ho hs d
    · rcases Bool.or_eq_true_iff.mp hx with hx | hx
      · obtain ⟨x, hx⟩ := isSome_ok hx
        obtain ⟨px, rfl⟩ := nameOf_ok hx
        exact wpAny_Assign_Name (fly hr) (rv_swap hr _ _ _)
      · obtain ⟨x, hx⟩ := isSome_ok hx
        obtain ⟨px, p, rfl⟩ := attrOf_ok hx
        exact plainObj_wpAny_Assign_Attribute (fly hr) (rv_swap hr _ _ _)
  | AugAssign t op e pos =>
    obtain ⟨⟨x, m⟩, hx, h0⟩ := obind h
    obtain ⟨o, ho, h1⟩ := obind h0
    obtain ⟨v, hv, h2⟩ := obind h1
    obtain ⟨u, hu, h3⟩ := obind h2
    obtain ⟨⟨q1, i1⟩, e1, h4⟩ := obind h3
    obtain ⟨⟨q2, i2⟩, e2, h5⟩ := obind h4
    obtain ⟨⟨ha, hsz⟩, h6⟩ := oif h5
    obtain ⟨st', hs, h7⟩ := obind h6
    cases osome h7
    cases isAdd_ok ha
    rw [strN_ok e1] at hv
    rw [strN_ok e2] at hu
    have hsz : i1 + i2 ≤ 1048576 := hsz
    obtain ⟨px, p, rfl⟩ := attrOf_ok hx
    refine wpAny_AugAssign_AttributeAny (wpAny_mono (locO_ev ho ei F) (fun ov s₁ h₁ => ?_) fun _ _ z => z)
    obtain ⟨rfl, dv⟩ := h₁
    refine wpAny_mono (attr_ok (c1.mono (Nat.le_add_left ..)) hv dv O) (fun old s₂ h₂ => ?_) fun _ _ z => z
    obtain ⟨k2, d2⟩ := h₂
    refine wpAny_mono ((evAllO TO n).1 e st _ hu A env L s₂ _ c1 ei (F.keeps k2) (O.mv k2)) (fun v3 s₃ h₃ => ?_) fun _ _ z => z
    obtain ⟨k3, d3⟩ := h₃
    obtain ⟨t1, rfl, le1⟩ := d2.inv_str
    obtain ⟨t2, rfl, le2⟩ := d3.inv_str
    have ln : (q1 ++ q2).length ≤ i1 + i2 := by rw [strLen_append]; exact Nat.add_le_add le1 le2
    refine SB.iadd (fun t' tk => ?_) (by rw [sizeLine_eq]; exact Nat.le_trans (Nat.add_le_add le1 le2) (Nat.le_trans hsz (by decide)))
    have k4 := kp_trans (kp_trans k2 k3) (kp_tok tk)
    refine wpAny_mono (setO_ok hs dv (.str ln) (O.mv k4)) (fun _ s₅ h₅ => ?_) fun _ _ z => z
    obtain ⟨O2, mv2, hl⟩ := h₅
    exact ⟨by rw [hl]; exact (F.keeps k4).mv mv2, O2, (Mv.of_keeps k4).tr (wsL mv2)⟩
  | Raise exc cause pos =>
    obtain ⟨q, h1⟩ := oif h
    obtain ⟨e, rfl, h2⟩ := obind h1
    cases cause with
    | some _ => cases q
    | none => exact raise_okO TO c ei sk O.stays h2
  | _ => cases h

theorem allO (TO : TabO w B T) (n : Nat) : (∀ m, m ≤ n → RvO prog w T B ad m ∧ CallO prog w T B ad m ∧ OxO prog w T B ad m ∧ OxsO prog w T B ad m) := by
  induction n with
  | zero =>
    intro m hm
    cases Nat.le_zero.mp hm
    exact ⟨fun sc e st r h => (by cases h), fun F xs a b r _ _ h => (by cases h), fun sc sm st o h => (by cases h), fun sc sm st o h => (by cases h)⟩
  | succ n ih =>
    intro m hm
    rcases Nat.le_or_eq_of_le_succ hm with q | rfl
    · exact ih m q
    · obtain ⟨h1, h2, h3, h4⟩ := ih n (Nat.le_refl _)
      exact ⟨rv_succO TO h2, call_succO h4, ox_succO TO h1 fun m hm => (ih m hm).2.2.2, oxs_succO h3 h4⟩
end
end Mine
end
/- S17 -/
section
open PySem PySem.W PyProof.Rows PySem.Calls Builtin Builtin.ObjectAttr
set_option Elab.async false
set_option linter.unusedVariables false
set_option linter.unusedSimpArgs false
namespace Mine
set_option maxRecDepth 100000
theorem blt_mem {x : Str} {v : Value} (h : bltNames.lookup x = some v) : (x, v) ∈ bltNames := by
  have : ∀ (l : List (Str × Value)), l.lookup x = some v → (x, v) ∈ l := by
    intro l
    induction l with
    | nil => intro h; cases h
    | cons p r ih =>
      intro h
      obtain ⟨y, u⟩ := p
      rw [List.lookup_cons] at h
      split at h
      · rename_i q; cases h; rw [eq_of_beq q]; exact List.mem_cons_self ..
      · exact List.mem_cons_of_mem _ (ih h)
  exact this _ h
theorem cls_mem {x : Str} {v : Value} (h : clsNames.lookup x = some v) : (x, v) ∈ clsNames := by
  have : ∀ (l : List (Str × Value)), l.lookup x = some v → (x, v) ∈ l := by
    intro l
    induction l with
    | nil => intro h; cases h
    | cons p r ih =>
      intro h
      obtain ⟨y, u⟩ := p
      rw [List.lookup_cons] at h
      split at h
      · rename_i q; cases h; rw [eq_of_beq q]; exact List.mem_cons_self ..
      · exact List.mem_cons_of_mem _ (ih h)
  exact this _ h
theorem rowAt_mem (i : Nat) (h : i < 25) : rowAt i ∈ fnTab := by
  have hl : i < fnTab.length := h
  have : rowAt i = fnTab[i] := by simp [rowAt, List.getD, List.getElem?_eq_getElem hl]
  rw [this]; exact List.getElem_mem hl
theorem rcode (i : Nat) (h : i < 25) : (fdOf (rowAt i)).code = .ref ((rowAt i).a - 1) ∧ (fdOf (rowAt i)).qualname = (rowAt i).name := by
  have : (List.range 25).all (fun i => (fdOf (rowAt i)).code == .ref ((rowAt i).a - 1) && (fdOf (rowAt i)).qualname == (rowAt i).name) = true := by decide +kernel
  simpa using List.all_eq_true.mp this i (by simpa using h)
theorem Found.rowAt {w : World} {B : Heap} (Fd : Found w B) {i : Nat} (h : i < 25) : FnAt B (fnOf (rowAt i)) :=
  ⟨⟨_, Fd.fns _ (rowAt_mem i h), rfl, rfl⟩, by show B.CodeRec (fdOf (Mine.rowAt i)).code (fdOf (Mine.rowAt i)).qualname; rw [(rcode i h).1, (rcode i h).2]; exact Fd.codes _ (rowAt_mem i h)⟩
theorem glob_cases {x : Str} {v : OV} (h : globTab.lookup x = some v) : (x, v) = (Str.ofString "StringIO", .ref 587) ∨ (x, v) = (Str.ofString "BytesIO", .ref 340) ∨ (x, v) = (Str.ofString "str", .typ "str") ∨ (x, v) = (Str.ofString "type", .typ "type") ∨ (x, v) = (Str.ofString "int", .typ "int") ∨ (x, v) = (Str.ofString "bool", .typ "bool") := by
  simp only [globTab, List.lookup] at h
  repeat' split at h
  all_goals first | (rename_i q; cases h; rw [eq_of_beq q]; simp) | cases h
theorem tabO {w : World} {B : Heap} (Fd : Found w B) : TabO w B otab := by
  obtain ⟨m, mb, n1, n2, n3, n4, n5, n6⟩ := Fd.names
  have hb : ∀ x v, bltNames.lookup x = some v → m x = none ∧ mb x = some v := fun x v h => n4 (x, v) (blt_mem h)
  have hc : ∀ x v, clsNames.lookup x = some v → m x = some v := fun x v h => n6 (x, v) (cls_mem h)
  refine ⟨⟨m, mb, n1, n2, fun x v h => ?_, hb _ _ (by kernel_rfl), fun x F h => ?_, fun x hx => ?_⟩, fun x v h => ?_, fun x F h => ?_, fun x F h => ?_, fun x F h => ?_⟩
  · rcases glob_cases h with h | h | h | h | h | h <;> cases h
    · exact ⟨_, fun ad => .ref _, .inl (hc _ _ (by kernel_rfl))⟩
    · exact ⟨_, fun ad => .ref _, .inl (hc _ _ (by kernel_rfl))⟩
    · exact ⟨_, fun ad => .typ _, .inr (hb _ _ (by kernel_rfl))⟩
    · exact ⟨_, fun ad => .typ _, .inr (hb _ _ (by kernel_rfl))⟩
    · exact ⟨_, fun ad => .typ _, .inr (hb _ _ (by kernel_rfl))⟩
    · exact ⟨_, fun ad => .typ _, .inr (hb _ _ (by kernel_rfl))⟩
  · simp only [otab] at h
    split at h
    · rename_i q; cases h
      rw [eq_of_beq q]
      exact n3 _ (rowAt_mem 1 (by decide))
    · cases h
  · rcases hx with rfl | rfl
    · exact hb _ _ (by kernel_rfl)
    · exact hb _ _ (by kernel_rfl)
  · rcases glob_cases h with h | h | h | h | h | h <;> cases h <;> decide +kernel
  · simp only [otab] at h
    split at h
    · rename_i q; cases h
      rw [eq_of_beq q]
      exact ⟨by decide +kernel, foI w, Fd.rowAt (by decide)⟩
    · cases h
  · simp only [otab] at h
    split at h
    · rename_i q; cases h; rw [eq_of_beq q]
      exact ⟨by kernel_rfl, by kernel_rfl, by decide +kernel, fo8 w, Fd.fnAt (by decide) (mcode 8 (by decide))⟩
    · split at h
      · rename_i q; cases h; rw [eq_of_beq q]
        exact ⟨by kernel_rfl, by kernel_rfl, by decide +kernel, fo7 w, Fd.fnAt (by decide) (mcode 7 (by decide))⟩
      · cases h
  · simp only [otab] at h
    split at h
    · rename_i q; cases h; rw [eq_of_beq q]
      exact ⟨by kernel_rfl, by kernel_rfl, by decide +kernel, fo4 w, Fd.fnAt (by decide) (mcode 4 (by decide))⟩
    · split at h
      · rename_i q; cases h; rw [eq_of_beq q]
        exact ⟨by kernel_rfl, by kernel_rfl, by decide +kernel, fo3 w, Fd.fnAt (by decide) (mcode 3 (by decide))⟩
      · split at h
        · rename_i q; cases h; rw [eq_of_beq q]
          exact ⟨by kernel_rfl, by kernel_rfl, by decide +kernel, fo2 w, Fd.fnAt (by decide) (mcode 2 (by decide))⟩
        · cases h
end Mine
end
/- S18 -/
section
open PySem PySem.W PyProof.Rows PySem.Calls
set_option Elab.async false
set_option linter.unusedVariables false
set_option linter.unusedSimpArgs false
namespace Mine
set_option maxRecDepth 100000
noncomputable def sAt (line : Str) (p : Nat) : Attrs := [(Str.ofString "_StringIO__newline", .str "\n" 1), (Str.ofString "_StringIO__buf", .str line 16), (Str.ofString "_StringIO__pos", .int p)]
noncomputable def lexA (q t : OV) : Attrs := [(Str.ofString "instream", .strm), (Str.ofString "infile", .none), (Str.ofString "posix", .bool true), (Str.ofString "eof", .none), (Str.ofString "commenters", .str "" 0), (Str.ofString "wordchars", .str "abcdfeghijklmnopqrstuvwxyzABCDEFGHIJKLMNOPQRSTUVWXYZ0123456789_ßàáâãäåæçèéêëìíîïðñòóôõöøùúûüýþÿÀÁÂÃÄÅÆÇÈÉÊËÌÍÎÏÐÑÒÓÔÕÖØÙÚÛÜÝÞ" 130),
  (Str.ofString "whitespace", .str " \t\r\n" 4), (Str.ofString "whitespace_split", .bool true), (Str.ofString "quotes", .str "'\"" 2), (Str.ofString "escape", .str "\\" 1), (Str.ofString "escapedquotes", .str "\"" 1), (Str.ofString "state", q), (Str.ofString "pushback", .dq), (Str.ofString "lineno", .int 1), (Str.ofString "debug", .int 0), (Str.ofString "token", t), (Str.ofString "filestack", .dq), (Str.ofString "source", .none), (Str.ofString "_punctuation_chars", .str "" 0)]
noncomputable def rtF : Fn := mFn (mAt 8)
noncomputable def rtSc : Scope := rtF.fd.scope
noncomputable def rtWhile : Expr × List Stmt := match rtF.body.drop 2 with
  | .While t b _ _ :: _ => (t, b)
  | _ => (.Name "" ⟨0, 0, 0, 0⟩, [])
noncomputable def rtT1 : Stmt := rtWhile.2.headD (.Pass ⟨0, 0, 0, 0⟩)
noncomputable def rtRest : List Stmt := rtWhile.2.drop 1
noncomputable def rtLoc (qd : Bool) : Attrs := [(Str.ofString "quoted", .bool qd), (Str.ofString "escapedstate", .str " " 1), (Str.ofString "self", .lex)]
theorem map_at {α : Type} {n p : Nat} {f g : Nat → α} (h : (List.range n).map f = (List.range n).map g) (hp : p < n) : f p = g p := List.map_inj_left.mp h p (List.mem_range.mpr hp)
theorem turn1_4 (k0 k1 k2 k3 : Nat) (qd : Bool) (q t : OV) : (List.range 4).map (fun p => ox otab rtSc 60 rtT1 ⟨rtLoc qd, lexA q t, some (sAt ⟨#[k0, k1, k2, k3]⟩ p)⟩) = (List.range 4).map (fun p => some (.next ⟨(Str.ofString "nextchar", .str ⟨#[[k0, k1, k2, k3].getD p 0]⟩ 16) :: rtLoc qd, lexA q t, some (sAt ⟨#[k0, k1, k2, k3]⟩ (p + 1))⟩)) := by kernel_rfl
theorem turn1e_4 (k0 k1 k2 k3 : Nat) (qd : Bool) (q t : OV) : ox otab rtSc 60 rtT1 ⟨rtLoc qd, lexA q t, some (sAt ⟨#[k0, k1, k2, k3]⟩ 4)⟩ = some (.next ⟨(Str.ofString "nextchar", .str "" 0) :: rtLoc qd, lexA q t, some (sAt ⟨#[k0, k1, k2, k3]⟩ 4)⟩) := by kernel_rfl
theorem turn1_8 (k0 k1 k2 k3 k4 k5 k6 k7 : Nat) (qd : Bool) (q t : OV) : (List.range 8).map (fun p => ox otab rtSc 60 rtT1 ⟨rtLoc qd, lexA q t, some (sAt ⟨#[k0, k1, k2, k3, k4, k5, k6, k7]⟩ p)⟩) = (List.range 8).map (fun p => some (.next ⟨(Str.ofString "nextchar", .str ⟨#[[k0, k1, k2, k3, k4, k5, k6, k7].getD p 0]⟩ 16) :: rtLoc qd, lexA q t, some (sAt ⟨#[k0, k1, k2, k3, k4, k5, k6, k7]⟩ (p + 1))⟩)) := by kernel_rfl
theorem turn1e_8 (k0 k1 k2 k3 k4 k5 k6 k7 : Nat) (qd : Bool) (q t : OV) : ox otab rtSc 60 rtT1 ⟨rtLoc qd, lexA q t, some (sAt ⟨#[k0, k1, k2, k3, k4, k5, k6, k7]⟩ 8)⟩ = some (.next ⟨(Str.ofString "nextchar", .str "" 0) :: rtLoc qd, lexA q t, some (sAt ⟨#[k0, k1, k2, k3, k4, k5, k6, k7]⟩ 8)⟩) := by kernel_rfl
theorem turn1_12 (k0 k1 k2 k3 k4 k5 k6 k7 k8 k9 k10 k11 : Nat) (qd : Bool) (q t : OV) : (List.range 12).map (fun p => ox otab rtSc 60 rtT1 ⟨rtLoc qd, lexA q t, some (sAt ⟨#[k0, k1, k2, k3, k4, k5, k6, k7, k8, k9, k10, k11]⟩ p)⟩) = (List.range 12).map (fun p => some (.next ⟨(Str.ofString "nextchar", .str ⟨#[[k0, k1, k2, k3, k4, k5, k6, k7, k8, k9, k10, k11].getD p 0]⟩ 16) :: rtLoc qd, lexA q t, some (sAt ⟨#[k0, k1, k2, k3, k4, k5, k6, k7, k8, k9, k10, k11]⟩ (p + 1))⟩)) := by kernel_rfl
theorem turn1e_12 (k0 k1 k2 k3 k4 k5 k6 k7 k8 k9 k10 k11 : Nat) (qd : Bool) (q t : OV) : ox otab rtSc 60 rtT1 ⟨rtLoc qd, lexA q t, some (sAt ⟨#[k0, k1, k2, k3, k4, k5, k6, k7, k8, k9, k10, k11]⟩ 12)⟩ = some (.next ⟨(Str.ofString "nextchar", .str "" 0) :: rtLoc qd, lexA q t, some (sAt ⟨#[k0, k1, k2, k3, k4, k5, k6, k7, k8, k9, k10, k11]⟩ 12)⟩) := by kernel_rfl
theorem len_4 {α : Type} {P : List α → Prop} {n : Nat} (f : ∀ a b c d r, r.length = n → P (a :: b :: c :: d :: r)) (l : List α) (h : l.length = n + 4) : P l := by
  obtain ⟨a, l1, rfl, h1⟩ := len_succ h
  obtain ⟨b, l2, rfl, h2⟩ := len_succ h1
  obtain ⟨c, l3, rfl, h3⟩ := len_succ h2
  obtain ⟨d, l4, rfl, h4⟩ := len_succ h3
  exact f a b c d l4 h4
theorem len_40 {α : Type} {P : List α → Prop} (f : ∀ a b c d, P [a, b, c, d]) (l : List α) (h : l.length = 4) : P l := len_4 (n := 0) (fun a b c d r hr => by rw [len_0 hr]; exact f a b c d) l h
noncomputable def LenOk (l : List Nat) : Prop := l.length = 4 ∨ l.length = 8 ∨ l.length = 12
/-- the rows of such a length -/
theorem LenOk.rows {P : List Nat → Prop} (h4 : ∀ a b c d, P [a, b, c, d]) (h8 : ∀ a b c d e f g i, P [a, b, c, d, e, f, g, i]) (h12 : ∀ a b c d e f g i j k m n, P [a, b, c, d, e, f, g, i, j, k, m, n]) {l : List Nat} (h : LenOk l) : P l := by
  rcases h with h | h | h
  · exact len_40 h4 l h
  · exact len_4 (n := 4) (fun a b c d => len_40 (P := fun r => P (a :: b :: c :: d :: r)) (h8 a b c d)) l h
  · exact len_4 (n := 8) (fun a b c d => len_4 (P := fun r => P (a :: b :: c :: d :: r)) (n := 4) fun e f g i => len_40 (P := fun r => P (a :: b :: c :: d :: e :: f :: g :: i :: r)) (h12 a b c d e f g i)) l h
theorem turn1 {l : List Nat} (hl : LenOk l) (qd : Bool) (q t : OV) {p : Nat} (hp : p < l.length) : ox otab rtSc 60 rtT1 ⟨rtLoc qd, lexA q t, some (sAt ⟨l.toArray⟩ p)⟩ = some (.next ⟨(Str.ofString "nextchar", .str ⟨#[l.getD p 0]⟩ 16) :: rtLoc qd, lexA q t, some (sAt ⟨l.toArray⟩ (p + 1))⟩) :=
  LenOk.rows (P := fun l => p < l.length → ox otab rtSc 60 rtT1 ⟨rtLoc qd, lexA q t, some (sAt ⟨l.toArray⟩ p)⟩ = some (.next ⟨(Str.ofString "nextchar", .str ⟨#[l.getD p 0]⟩ 16) :: rtLoc qd, lexA q t, some (sAt ⟨l.toArray⟩ (p + 1))⟩))
    (fun a b c d hp => map_at (turn1_4 a b c d qd q t) hp) (fun a b c d e f g i hp => map_at (turn1_8 a b c d e f g i qd q t) hp) (fun a b c d e f g i j k m n hp => map_at (turn1_12 a b c d e f g i j k m n qd q t) hp) hl hp
theorem turn1e {l : List Nat} (hl : LenOk l) (qd : Bool) (q t : OV) : ox otab rtSc 60 rtT1 ⟨rtLoc qd, lexA q t, some (sAt ⟨l.toArray⟩ l.length)⟩ = some (.next ⟨(Str.ofString "nextchar", .str "" 0) :: rtLoc qd, lexA q t, some (sAt ⟨l.toArray⟩ l.length)⟩) :=
  LenOk.rows (P := fun l => ox otab rtSc 60 rtT1 ⟨rtLoc qd, lexA q t, some (sAt ⟨l.toArray⟩ l.length)⟩ = some (.next ⟨(Str.ofString "nextchar", .str "" 0) :: rtLoc qd, lexA q t, some (sAt ⟨l.toArray⟩ l.length)⟩))
    (fun a b c d => turn1e_4 a b c d qd q t) (fun a b c d e f g i => turn1e_8 a b c d e f g i qd q t) (fun a b c d e f g i j k m n => turn1e_12 a b c d e f g i j k m n qd q t) hl
end Mine
end
/- S19 -/
section
open PySem PySem.W PyProof.Rows PySem.Calls
set_option Elab.async false
set_option linter.unusedVariables false
set_option linter.unusedSimpArgs false
namespace Mine
set_option maxRecDepth 100000
/-- the letters and figures of base64 -/
noncomputable def plainC : List Nat := [65, 66, 67, 68, 69, 70, 71, 72, 73, 74, 75, 76, 77, 78, 79, 80, 81, 82, 83, 84, 85, 86, 87, 88, 89, 90, 97, 98, 99, 100, 101, 102, 103, 104, 105, 106, 107, 108, 109, 110, 111, 112, 113, 114, 115, 116, 117, 118, 119, 120, 121, 122, 48, 49, 50, 51, 52, 53, 54, 55, 56, 57]
noncomputable def ncL (c : Nat) (qd : Bool) : Attrs := (Str.ofString "nextchar", .str ⟨#[c]⟩ 16) :: rtLoc qd
noncomputable def ncE (qd : Bool) : Attrs := (Str.ofString "nextchar", .str "" 0) :: rtLoc qd
noncomputable def stS : OV := .str " " 1
noncomputable def stA : OV := .str "a" 1
noncomputable def stQ (c : Nat) : OV := .str ⟨#[c]⟩ 16
section
variable (qd : Bool) (t : Str) (b : Option Attrs)
theorem turn_S : plainC.map (fun c => oxs otab rtSc 60 rtRest ⟨ncL c qd, lexA stS (.str "" 0), b⟩) = plainC.map (fun c => some (.next ⟨ncL c qd, lexA stA (.str ⟨#[c]⟩ 16), b⟩)) := by kernel_rfl
theorem turn_A : plainC.map (fun c => oxs otab rtSc 60 rtRest ⟨ncL c qd, lexA stA (.str t 100), b⟩) = plainC.map (fun c => some (.next ⟨ncL c qd, lexA stA (.str (t ++ ⟨#[c]⟩) 116), b⟩)) := by kernel_rfl
theorem turn_Q1 : plainC.map (fun c => oxs otab rtSc 60 rtRest ⟨ncL c qd, lexA (stQ 39) (.str t 100), b⟩) = plainC.map (fun c => some (.next ⟨(Str.ofString "quoted", .bool true) :: ncL c qd, lexA (stQ 39) (.str (t ++ ⟨#[c]⟩) 116), b⟩)) := by kernel_rfl
theorem turn_Q2 : plainC.map (fun c => oxs otab rtSc 60 rtRest ⟨ncL c qd, lexA (stQ 34) (.str t 100), b⟩) = plainC.map (fun c => some (.next ⟨(Str.ofString "quoted", .bool true) :: ncL c qd, lexA (stQ 34) (.str (t ++ ⟨#[c]⟩) 116), b⟩)) := by kernel_rfl
theorem turn_S39 : oxs otab rtSc 60 rtRest ⟨ncL 39 qd, lexA stS (.str "" 0), b⟩ = some (.next ⟨ncL 39 qd, lexA (stQ 39) (.str "" 0), b⟩) := by kernel_rfl
theorem turn_S34 : oxs otab rtSc 60 rtRest ⟨ncL 34 qd, lexA stS (.str "" 0), b⟩ = some (.next ⟨ncL 34 qd, lexA (stQ 34) (.str "" 0), b⟩) := by kernel_rfl
theorem turn_A39 : oxs otab rtSc 60 rtRest ⟨ncL 39 qd, lexA stA (.str t 100), b⟩ = some (.next ⟨ncL 39 qd, lexA (stQ 39) (.str t 100), b⟩) := by kernel_rfl
theorem turn_A34 : oxs otab rtSc 60 rtRest ⟨ncL 34 qd, lexA stA (.str t 100), b⟩ = some (.next ⟨ncL 34 qd, lexA (stQ 34) (.str t 100), b⟩) := by kernel_rfl
theorem turn_Q39 : oxs otab rtSc 60 rtRest ⟨ncL 39 qd, lexA (stQ 39) (.str t 100), b⟩ = some (.next ⟨(Str.ofString "quoted", .bool true) :: ncL 39 qd, lexA stA (.str t 100), b⟩) := by kernel_rfl
theorem turn_Q34 : oxs otab rtSc 60 rtRest ⟨ncL 34 qd, lexA (stQ 34) (.str t 100), b⟩ = some (.next ⟨(Str.ofString "quoted", .bool true) :: ncL 34 qd, lexA stA (.str t 100), b⟩) := by kernel_rfl
theorem turn_Q1x : oxs otab rtSc 60 rtRest ⟨ncL 34 qd, lexA (stQ 39) (.str t 100), b⟩ = some (.next ⟨(Str.ofString "quoted", .bool true) :: ncL 34 qd, lexA (stQ 39) (.str (t ++ ⟨#[34]⟩) 116), b⟩) := by kernel_rfl
theorem turn_Q2x : oxs otab rtSc 60 rtRest ⟨ncL 39 qd, lexA (stQ 34) (.str t 100), b⟩ = some (.next ⟨(Str.ofString "quoted", .bool true) :: ncL 39 qd, lexA (stQ 34) (.str (t ++ ⟨#[39]⟩) 116), b⟩) := by kernel_rfl
theorem turn_Ae : oxs otab rtSc 60 rtRest ⟨ncE qd, lexA stA (.str t 100), b⟩ = some (.brk ⟨ncE qd, lexA .none (.str t 100), b⟩) := by kernel_rfl
theorem turn_Q1e : oxs otab rtSc 60 rtRest ⟨ncE qd, lexA (stQ 39) (.str t 100), b⟩ = some (.exc "ValueError" [.str "No closing quotation" 20]) := by kernel_rfl
theorem turn_Q2e : oxs otab rtSc 60 rtRest ⟨ncE qd, lexA (stQ 34) (.str t 100), b⟩ = some (.exc "ValueError" [.str "No closing quotation" 20]) := by kernel_rfl
/-- when all is read -/
theorem turn_N : oxs otab rtSc 60 rtRest ⟨ncE qd, lexA .none (.str "" 0), b⟩ = some (.brk ⟨ncE qd, lexA .none (.str "" 0), b⟩) := by kernel_rfl
end
end Mine
end
/- S20 -/
section
open PySem PySem.W PyProof.Rows PySem.Calls
set_option Elab.async false
set_option linter.unusedVariables false
set_option linter.unusedSimpArgs false
namespace Mine
set_option maxRecDepth 100000
noncomputable def rtTail : List Stmt := rtF.body.drop 3
theorem rt_head (a : Attrs) (b : Option Attrs) : oxs otab rtSc 60 (rtF.body.take 2) ⟨[(Str.ofString "self", .lex)], a, b⟩ = some (.next ⟨[(Str.ofString "escapedstate", .str " " 1), (Str.ofString "quoted", .bool false), (Str.ofString "self", .lex)], a, b⟩) := by kernel_rfl
theorem rt_test (st : OS) : ot otab rtSc 60 rtWhile.1 st = some true := by kernel_rfl
theorem rt_tail_t (t : Str) (b : Option Attrs) : oxs otab rtSc 60 rtTail ⟨ncE true, lexA .none (.str t 100), b⟩ = some (.ret (.str t 100) ⟨(Str.ofString "result", .str t 100) :: ncE true, lexA .none (.str "" 0), b⟩) := by kernel_rfl
theorem rt_tail_f (c : Nat) (r : List Nat) (b : Option Attrs) : oxs otab rtSc 60 rtTail ⟨ncE false, lexA .none (.str ⟨⟨c :: r⟩⟩ 100), b⟩ = some (.ret (.str ⟨⟨c :: r⟩⟩ 100) ⟨(Str.ofString "result", .str ⟨⟨c :: r⟩⟩ 100) :: ncE false, lexA .none (.str "" 0), b⟩) := by kernel_rfl
theorem rt_tail_n (b : Option Attrs) : oxs otab rtSc 60 rtTail ⟨ncE false, lexA .none (.str "" 0), b⟩ = some (.ret .none ⟨(Str.ofString "result", .none) :: (Str.ofString "result", .str "" 0) :: ncE false, lexA .none (.str "" 0), b⟩) := by kernel_rfl
noncomputable def whileOf : Stmt → Option (Expr × List Stmt × Pos)
  | .While t b o p => if o.isEmpty = true then some (t, b, p) else none
  | _ => none
theorem whileOf_ok {s : Stmt} {q : Expr × List Stmt × Pos} (h : whileOf s = some q) : s = .While q.1 q.2.1 [] q.2.2 := by
  cases s with
  | While t b o p => obtain ⟨e, h⟩ := oif h; cases osome h; rw [isEmpty_ok e]
  | _ => cases h
theorem drop_cons {α : Type} {l r : List α} {a : α} {n : Nat} (h : l.drop n = a :: r) : l = l.take n ++ a :: l.drop (n + 1) := by
  have e : l.drop (n + 1) = r := by rw [← List.drop_drop, h]; rfl
  rw [e, ← h]; exact (List.take_append_drop n l).symm
/-- the statement at a place -/
theorem split_at {l : List Stmt} {a : Stmt} {n : Nat} (h : (l.drop n).head? = some a) : l = l.take n ++ a :: l.drop (n + 1) := by
  cases q : l.drop n with
  | nil => rw [q] at h; cases h
  | cons b r => rw [q] at h; cases osome h; exact drop_cons q
theorem rt_is : (((rtF.body.drop 2).head?).bind whileOf).map (fun q => (q.1, q.2.1)) = some rtWhile := by kernel_rfl
theorem rt_split : ∃ p, rtF.body = rtF.body.take 2 ++ .While rtWhile.1 rtWhile.2 [] p :: rtTail := by
  obtain ⟨q, h, e⟩ := Option.map_eq_some_iff.mp rt_is
  obtain ⟨s, hs, hq⟩ := obind h
  rw [← e]
  exact ⟨q.2.2, by rw [← whileOf_ok hq]; exact split_at hs⟩
theorem rt_turn_split : rtWhile.2 = rtT1 :: rtRest := by
  have h : (rtWhile.2.drop 0).head? = some rtT1 := by kernel_rfl
  exact split_at h
/-- get_token and __next__ -/
noncomputable def gtF : Fn := mFn (mAt 7)
noncomputable def gtSc : Scope := gtF.fd.scope
noncomputable def nxF : Fn := mFn (mAt 10)
noncomputable def nxSc : Scope := nxF.fd.scope
noncomputable def assignOf : Stmt → Option (List Expr × Expr)
  | .Assign ts e _ => some (ts, e)
  | _ => none
theorem assignOf_ok {s : Stmt} {q : List Expr × Expr} (h : assignOf s = some q) : ∃ p, s = .Assign q.1 q.2 p := by
  cases s with
  | Assign ts e p => cases osome h; exact ⟨p, rfl⟩
  | _ => cases h
/-- a method of a name, called with nothing -/
noncomputable def meth0 (e : Expr) : Option (Str × Str) := (callOf e).bind fun c => (attOf c.1).bind fun o => (nameOf o.1).bind fun y => if (c.2.1.isEmpty = true ∧ c.2.2.1.isEmpty = true) ∧ (o.2.2.endLine == c.2.2.2.line) = true then some (y, o.2.1) else none
theorem meth0_ok {e : Expr} {q : Str × Str} (h : meth0 e = some q) : ∃ py ap cp, e = .Call (.Attribute (.Name q.1 py) q.2 ap) [] [] cp ∧ (ap.endLine == cp.line) = true := by
  obtain ⟨⟨fn, args, kws, cp⟩, h1, h⟩ := obind h
  obtain ⟨⟨o, m', ap⟩, h2, h⟩ := obind h
  obtain ⟨x', h3, h⟩ := obind h
  obtain ⟨⟨⟨q1, q2⟩, q3⟩, h⟩ := oif h
  cases osome h
  obtain ⟨px, e3⟩ := nameOf_ok h3
  exact ⟨px, ap, cp, (callOf_ok h1).trans (by rw [attOf_ok h2, show o = _ from e3, isEmpty_ok q1, isEmpty_ok q2]), q3⟩
noncomputable def asgMeth (s : Stmt) : Option (Str × Str × Str) := (assignOf s).bind fun a => (one a.1).bind fun t => (nameOf t).bind fun x => (meth0 a.2).bind fun q => some (x, q)
theorem asgMeth_ok {st : Stmt} {x y m : Str} (h : asgMeth st = some (x, y, m)) : ∃ px py ap cp p, st = .Assign [.Name x px] (.Call (.Attribute (.Name y py) m ap) [] [] cp) p ∧ (ap.endLine == cp.line) = true := by
  obtain ⟨⟨ts, e⟩, h1, h2⟩ := obind h
  obtain ⟨t, h3, h4⟩ := obind h2
  obtain ⟨x', h5, h6⟩ := obind h4
  obtain ⟨⟨y', m'⟩, h7, h8⟩ := obind h6
  cases osome h8
  obtain ⟨p, e1⟩ := assignOf_ok h1
  obtain ⟨px, e2⟩ := nameOf_ok h5
  obtain ⟨py, ap, cp, e3, hl⟩ := meth0_ok h7
  exact ⟨px, py, ap, cp, p, e1.trans (by rw [one_ok h3, e2, show e = _ from e3]), hl⟩
noncomputable def gtAsg : Stmt := (gtF.body.drop 1).headD (.Pass ⟨0, 0, 0, 0⟩)
noncomputable def gtTail : List Stmt := gtF.body.drop 2
noncomputable def nxAsg : Stmt := nxF.body.headD (.Pass ⟨0, 0, 0, 0⟩)
noncomputable def nxTail : List Stmt := nxF.body.drop 1
theorem gt_asg : asgMeth gtAsg = some (Str.ofString "raw", Str.ofString "self", Str.ofString "read_token") := by kernel_rfl
theorem nx_asg : asgMeth nxAsg = some (Str.ofString "token", Str.ofString "self", Str.ofString "get_token") := by kernel_rfl
theorem gt_split : gtF.body = gtF.body.take 1 ++ gtAsg :: gtTail := by
  have h : (gtF.body.drop 1).head? = some gtAsg := by kernel_rfl
  exact split_at h
theorem nx_split : nxF.body = nxAsg :: nxTail := by
  have h : (nxF.body.drop 0).head? = some nxAsg := by kernel_rfl
  exact split_at h
theorem gt_head (q t : OV) (b : Option Attrs) : oxs otab gtSc 60 (gtF.body.take 1) ⟨[(Str.ofString "self", .lex)], lexA q t, b⟩ = some (.next ⟨[(Str.ofString "self", .lex)], lexA q t, b⟩) := by kernel_rfl
theorem gt_tail (t : Str) (q u : OV) (b : Option Attrs) : oxs otab gtSc 60 gtTail ⟨[(Str.ofString "raw", .str t 100), (Str.ofString "self", .lex)], lexA q u, b⟩ = some (.ret (.str t 100) ⟨[(Str.ofString "raw", .str t 100), (Str.ofString "self", .lex)], lexA q u, b⟩) := by kernel_rfl
theorem gt_tail_n (q u : OV) (b : Option Attrs) : oxs otab gtSc 60 gtTail ⟨[(Str.ofString "raw", .none), (Str.ofString "self", .lex)], lexA q u, b⟩ = some (.ret .none ⟨[(Str.ofString "raw", .none), (Str.ofString "self", .lex)], lexA q u, b⟩) := by kernel_rfl
theorem nx_tail (t : Str) (q u : OV) (b : Option Attrs) : oxs otab nxSc 60 nxTail ⟨[(Str.ofString "token", .str t 100), (Str.ofString "self", .lex)], lexA q u, b⟩ = some (.ret (.str t 100) ⟨[(Str.ofString "token", .str t 100), (Str.ofString "self", .lex)], lexA q u, b⟩) := by kernel_rfl
theorem nx_tail_n (q u : OV) (b : Option Attrs) : oxs otab nxSc 60 nxTail ⟨[(Str.ofString "token", .none), (Str.ofString "self", .lex)], lexA q u, b⟩ = some (.exc "StopIteration" []) := by kernel_rfl
end Mine
end
/- S21 -/
section
open PySem PySem.W PyProof.Rows PySem.Calls
set_option Elab.async false
set_option linter.unusedVariables false
set_option linter.unusedSimpArgs false
namespace Mine
set_option maxRecDepth 100000
/-- the machine: the open quotation (0: none), the word so far, whether a quotation has been seen -/
noncomputable def mach : Nat → List Nat → Bool → List Nat → Option (List Nat × Bool)
  | q, t, qd, [] => if q = 0 then some (t, qd) else none
  | q, t, qd, c :: r => if q = 0 then (if c = 39 ∨ c = 34 then mach c t qd r else mach 0 (t ++ [c]) qd r) else if c = q then mach 0 t true r else mach q (t ++ [c]) true r
noncomputable def qOV (q : Nat) : OV := if q = 0 then stA else stQ q
noncomputable def RtI (l : List Nat) (p : Nat) (qs tv : OV) (qd : Bool) : Prop :=
  (p = 0 ∧ qs = stS ∧ tv = .str "" 0 ∧ qd = false) ∨ ∃ q t, (q = 0 ∨ q = 39 ∨ q = 34) ∧ qs = qOV q ∧ tv = .str ⟨t.toArray⟩ 100 ∧ t.length ≤ p ∧ 0 < p ∧ mach q t qd (l.drop p) = mach 0 [] false l ∧ (q = 0 → qd = false → t ≠ [])
noncomputable def CharsOk (l : List Nat) : Prop := ∀ c ∈ l, c ∈ plainC ∨ c = 39 ∨ c = 34
theorem plain_ne {c : Nat} (h : c ∈ plainC) : c ≠ 39 ∧ c ≠ 34 := by
  have : plainC.all (fun c => c != 39 && c != 34) = true := by decide
  have := List.all_eq_true.mp this c h
  simpa using this
theorem str_app (t : List Nat) (c : Nat) : (⟨t.toArray⟩ : Str) ++ ⟨#[c]⟩ = ⟨(t ++ [c]).toArray⟩ := by
  show Str.append _ _ = _
  simp [Str.append]
theorem den_weak {ad : Ad} {x : Str} {n : Nat} (h : x.length ≤ 100) (u : Value) (d : DenO ad u (.str x n)) : DenO ad u (.str x 100) := by cases d; exact .str h
theorem nil_den {ad : Ad} {u : Value} (d : DenO ad u (.str "" 0)) : DenO ad u (.str ⟨([] : List Nat).toArray⟩ 0) := by
  rw [show Str.ofString "" = ⟨([] : List Nat).toArray⟩ from by decide +kernel] at d; exact d
theorem loc_q (qd : Bool) (c : Nat) : ∀ x v, (rtLoc true).lookup x = some v → ((Str.ofString "quoted", OV.bool true) :: ncL c qd).lookup x = some v := by
  intro x v h
  simp only [rtLoc, ncL, List.lookup] at h ⊢
  split at h
  · exact h
  · rename_i q1
    split at h
    · rename_i q2
      have : (x == Str.ofString "nextchar") = false := by rw [eq_of_beq q2]; decide +kernel
      simp only [this]; exact h
    · split at h
      · rename_i q3
        have : (x == Str.ofString "nextchar") = false := by rw [eq_of_beq q3]; decide +kernel
        simp only [this]; exact h
      · cases h
theorem loc_n (qd : Bool) (v0 : OV) : ∀ x v, (rtLoc qd).lookup x = some v → ((Str.ofString "nextchar", v0) :: rtLoc qd).lookup x = some v := by
  intro x v h
  have : (x == Str.ofString "nextchar") = false := by
    simp only [rtLoc, List.lookup] at h
    split at h
    · rename_i q; rw [eq_of_beq q]; decide +kernel
    · split at h
      · rename_i q; rw [eq_of_beq q]; decide +kernel
      · split at h
        · rename_i q; rw [eq_of_beq q]; decide +kernel
        · cases h
  rw [List.lookup_cons, this]; exact h

theorem oxs_cons {T : OTab} {sc : Scope} {n : Nat} {s : Stmt} {r : List Stmt} {st st' : OS} (h : ox T sc n s st = some (.next st')) : oxs T sc (n + 1) (s :: r) st = oxs T sc n r st' := by
  show (ox T sc n s st).bind _ = _
  rw [h]; rfl
theorem turn_go {l : List Nat} (hl : LenOk l) (qd : Bool) (q t : OV) {p : Nat} (hp : p < l.length) : oxs otab rtSc 61 rtWhile.2 ⟨rtLoc qd, lexA q t, some (sAt ⟨l.toArray⟩ p)⟩ = oxs otab rtSc 60 rtRest ⟨ncL (l.getD p 0) qd, lexA q t, some (sAt ⟨l.toArray⟩ (p + 1))⟩ := by
  rw [rt_turn_split]
  exact oxs_cons (turn1 hl qd q t hp)
theorem turn_end {l : List Nat} (hl : LenOk l) (qd : Bool) (q t : OV) : oxs otab rtSc 61 rtWhile.2 ⟨rtLoc qd, lexA q t, some (sAt ⟨l.toArray⟩ l.length)⟩ = oxs otab rtSc 60 rtRest ⟨ncE qd, lexA q t, some (sAt ⟨l.toArray⟩ l.length)⟩ := by
  rw [rt_turn_split]
  exact oxs_cons (turn1e hl qd q t)

theorem len_le {l : List Nat} (hl : LenOk l) : l.length ≤ 12 := by rcases hl with h | h | h <;> lia

theorem turn_in {l : List Nat} (hl : LenOk l) (hc : CharsOk l) {p : Nat} {qs tv : OV} {qd : Bool} (hI : RtI l p qs tv qd) (hp : p < l.length) :
    ∃ loc' qs' tv' tv'' qd', oxs otab rtSc 61 rtWhile.2 ⟨rtLoc qd, lexA qs tv, some (sAt ⟨l.toArray⟩ p)⟩ = some (.next ⟨loc', lexA qs' tv', some (sAt ⟨l.toArray⟩ (p + 1))⟩) ∧
      (∀ x v, (rtLoc qd').lookup x = some v → loc'.lookup x = some v) ∧ (∀ ad u, DenO ad u tv' → DenO ad u tv'') ∧ RtI l (p + 1) qs' tv'' qd' := by
  have hd : l.drop p = l.getD p 0 :: l.drop (p + 1) := by
    rw [List.drop_eq_getElem_cons hp]
    simp [List.getD, List.getElem?_eq_getElem hp]
  have hm : l.getD p 0 ∈ l := by
    simp only [List.getD, List.getElem?_eq_getElem hp, Option.getD_some]
    exact List.getElem_mem hp
  have h12 := len_le hl
  rw [turn_go hl qd qs tv hp]
  generalize hcc : l.getD p 0 = c at *
  rcases hI with ⟨rfl, rfl, rfl, rfl⟩ | ⟨q, t, hq, rfl, rfl, hlen, hpos, hmach, hne⟩
  · have hm0 : mach 0 [] false l = mach 0 [] false (c :: l.drop 1) := by rw [← hd]; rfl
    rcases hc c hm with h | rfl | rfl
    · obtain ⟨n1, n2⟩ := plain_ne h
      refine ⟨_, _, _, .str ⟨[c].toArray⟩ 100, false, List.map_inj_left.mp (turn_S false _) c h, loc_n _ _, fun ad u d => den_weak (by simp [Str.length]) u d, .inr ⟨0, [c], .inl rfl, rfl, rfl, by simp, by lia, ?_, by simp⟩⟩
      rw [hm0]; simp [mach, n1, n2]
    · refine ⟨_, _, _, .str ⟨([] : List Nat).toArray⟩ 100, false, turn_S39 false _, loc_n _ _, fun ad u d => den_weak (by decide) u (nil_den d), .inr ⟨39, [], .inr (.inl rfl), rfl, rfl, by simp, by lia, ?_, by simp⟩⟩
      rw [hm0]; simp [mach]
    · refine ⟨_, _, _, .str ⟨([] : List Nat).toArray⟩ 100, false, turn_S34 false _, loc_n _ _, fun ad u d => den_weak (by decide) u (nil_den d), .inr ⟨34, [], .inr (.inr rfl), rfl, rfl, by simp, by lia, ?_, by simp⟩⟩
      rw [hm0]; simp [mach]
  · rw [hd] at hmach
    have w1 : ∀ (ad : Ad) (u : Value), DenO ad u (.str ((⟨t.toArray⟩ : Str) ++ ⟨#[c]⟩) 116) → DenO ad u (.str ⟨(t ++ [c]).toArray⟩ 100) := fun ad u d => by rw [str_app] at d; exact den_weak (by simp [Str.length]; lia) u d
    rcases hq with rfl | rfl | rfl
    · rcases hc c hm with h | rfl | rfl
      · obtain ⟨n1, n2⟩ := plain_ne h
        refine ⟨_, _, _, _, qd, List.map_inj_left.mp (turn_A qd ⟨t.toArray⟩ _) c h, loc_n _ _, w1, .inr ⟨0, t ++ [c], .inl rfl, rfl, rfl, by simp; lia, by lia, ?_, by simp⟩⟩
        rw [← hmach]; simp [mach, n1, n2]
      · refine ⟨_, _, _, _, qd, turn_A39 qd ⟨t.toArray⟩ _, loc_n _ _, fun ad u d => d, .inr ⟨39, t, .inr (.inl rfl), rfl, rfl, by lia, by lia, ?_, by simp⟩⟩
        rw [← hmach]; simp [mach]
      · refine ⟨_, _, _, _, qd, turn_A34 qd ⟨t.toArray⟩ _, loc_n _ _, fun ad u d => d, .inr ⟨34, t, .inr (.inr rfl), rfl, rfl, by lia, by lia, ?_, by simp⟩⟩
        rw [← hmach]; simp [mach]
    · rcases hc c hm with h | rfl | rfl
      · obtain ⟨n1, n2⟩ := plain_ne h
        refine ⟨_, _, _, _, true, List.map_inj_left.mp (turn_Q1 qd ⟨t.toArray⟩ _) c h, loc_q _ _, w1, .inr ⟨39, t ++ [c], .inr (.inl rfl), rfl, rfl, by simp; lia, by lia, ?_, by simp⟩⟩
        rw [← hmach]; simp [mach, n1]
      · refine ⟨_, _, _, _, true, turn_Q39 qd ⟨t.toArray⟩ _, loc_q _ _, fun ad u d => d, .inr ⟨0, t, .inl rfl, rfl, rfl, by lia, by lia, ?_, by simp⟩⟩
        rw [← hmach]; simp [mach]
      · refine ⟨_, _, _, _, true, turn_Q1x qd ⟨t.toArray⟩ _, loc_q _ _, w1, .inr ⟨39, t ++ [34], .inr (.inl rfl), rfl, rfl, by simp; lia, by lia, ?_, by simp⟩⟩
        rw [← hmach]; simp [mach]
    · rcases hc c hm with h | rfl | rfl
      · obtain ⟨n1, n2⟩ := plain_ne h
        refine ⟨_, _, _, _, true, List.map_inj_left.mp (turn_Q2 qd ⟨t.toArray⟩ _) c h, loc_q _ _, w1, .inr ⟨34, t ++ [c], .inr (.inr rfl), rfl, rfl, by simp; lia, by lia, ?_, by simp⟩⟩
        rw [← hmach]; simp [mach, n2]
      · refine ⟨_, _, _, _, true, turn_Q2x qd ⟨t.toArray⟩ _, loc_q _ _, w1, .inr ⟨34, t ++ [39], .inr (.inr rfl), rfl, rfl, by simp; lia, by lia, ?_, by simp⟩⟩
        rw [← hmach]; simp [mach]
      · refine ⟨_, _, _, _, true, turn_Q34 qd ⟨t.toArray⟩ _, loc_q _ _, fun ad u d => d, .inr ⟨0, t, .inl rfl, rfl, rfl, by lia, by lia, ?_, by simp⟩⟩
        rw [← hmach]; simp [mach]

theorem turn_out {l : List Nat} (hl : LenOk l) {qs tv : OV} {qd : Bool} (hI : RtI l l.length qs tv qd) :
    (∃ t, mach 0 [] false l = some (t, qd) ∧ t.length ≤ l.length ∧ (qd = false → t ≠ []) ∧ oxs otab rtSc 61 rtWhile.2 ⟨rtLoc qd, lexA qs tv, some (sAt ⟨l.toArray⟩ l.length)⟩ = some (.brk ⟨ncE qd, lexA .none (.str ⟨t.toArray⟩ 100), some (sAt ⟨l.toArray⟩ l.length)⟩)) ∨
    (mach 0 [] false l = none ∧ oxs otab rtSc 61 rtWhile.2 ⟨rtLoc qd, lexA qs tv, some (sAt ⟨l.toArray⟩ l.length)⟩ = some (.exc "ValueError" [.str "No closing quotation" 20])) := by
  rw [turn_end hl qd qs tv]
  rcases hI with ⟨h, _⟩ | ⟨q, t, hq, rfl, rfl, hlen, hpos, hmach, hne⟩
  · rcases hl with q | q | q <;> lia
  · rw [List.drop_of_length_le (Nat.le_refl _)] at hmach
    rcases hq with rfl | rfl | rfl
    · exact .inl ⟨t, by rw [← hmach]; simp [mach], hlen, hne rfl, turn_Ae qd ⟨t.toArray⟩ _⟩
    · exact .inr ⟨by rw [← hmach]; simp [mach], turn_Q1e qd ⟨t.toArray⟩ _⟩
    · exact .inr ⟨by rw [← hmach]; simp [mach], turn_Q2e qd ⟨t.toArray⟩ _⟩
end Mine
end
/- S22 -/
section
open PySem PySem.W PyProof.Rows PySem.Calls
set_option Elab.async false
set_option linter.unusedVariables false
set_option linter.unusedSimpArgs false
namespace Mine
set_option maxRecDepth 100000
inductive ReA (ad : Ad) : Attrs → Attrs → Prop where
  | nil : ReA ad [] []
  | cons {n : Str} {v v' : OV} {l l' : Attrs} (h : ∀ u, DenO ad u v → DenO ad u v') (hs : ReA ad l l') : ReA ad ((n, v) :: l) ((n, v') :: l')
theorem ReA.refl {ad : Ad} : ∀ l : Attrs, ReA ad l l
  | [] => .nil
  | (n, v) :: r => .cons (fun _ d => d) (ReA.refl r)
theorem ReA.keys {ad : Ad} : ∀ {l l' : Attrs}, ReA ad l l' → l'.map (·.1) = l.map (·.1)
  | _, _, .nil => rfl
  | _, _, .cons _ hs => by simp [ReA.keys hs]
theorem ReA.look {ad : Ad} {n : Str} {v' : OV} : ∀ {l l' : Attrs}, ReA ad l l' → l'.lookup n = some v' → ∃ v, l.lookup n = some v ∧ ∀ u, DenO ad u v → DenO ad u v'
  | _, _, .nil, h => by cases h
  | _, _, .cons h hs, e => by
    rw [List.lookup_cons] at e
    rw [List.lookup_cons]
    split at e
    · cases e; exact ⟨_, rfl, h⟩
    · exact ReA.look hs e
theorem InstR.re {h : Heap} {ad : Ad} {x C dx : Addr} {a a' : Attrs} (I : InstR h ad x C dx a) (r : ReA ad a a') : InstR h ad x C dx a' := by
  obtain ⟨m, hm, h1, h2⟩ := I.ns
  refine ⟨I.obj, m, hm, fun n v e => ?_, by rw [r.keys]; exact h2⟩
  obtain ⟨v0, e0, hv⟩ := r.look e
  obtain ⟨u, e1, d⟩ := h1 n v0 e0
  exact ⟨u, e1, hv u d⟩
theorem Obs.re {w : World} {B : Heap} {ad : Ad} {a a' : Attrs} {b : Option Attrs} {h : Heap} (O : Obs w B ad a b h) (r : ReA ad a a') : Obs w B ad a' b h :=
  ⟨O.ix.re r, O.iy, O.dq, O.stays, O.newX, O.newY, O.found, O.lim, O.nd, O.up, by rw [r.keys]; exact O.na, O.nb⟩
theorem reLex {ad : Ad} {q t t' : OV} (h : ∀ u, DenO ad u t → DenO ad u t') : ReA ad (lexA q t) (lexA q t') := by
  unfold lexA
  repeat (first | exact .nil | refine .cons h ?_ | refine .cons (fun _ d => d) ?_)
theorem FrO.sub {ad : Ad} {B : Heap} {L : Addr} {l l' : Attrs} {h : Heap} (F : FrO ad B L l h) (s : ∀ x v, l'.lookup x = some v → l.lookup x = some v) : FrO ad B L l' h := by
  obtain ⟨m, hm, hl⟩ := F.ns
  exact ⟨⟨m, hm, fun x v e => hl x v (s x v e)⟩, F.new, F.out⟩

theorem ExcO.held {B : Heap} {ad : Ad} {env : Env} {outer : List Env} {L : Addr} {cls : String} {args : List OV} {W : List Addr} {s : Shared} {e : Value} {s' : Shared} {M : Model} {A : Around} {R : Value → Shared → Prop} (hfr : A.frames = some (env :: outer)) (ef : env.frame = some L)
    (x : ExcO B ad (env :: outer) L cls args W s e s') (hR : ∀ e s', ExcO B ad (env :: outer) L cls args W s e s' → R e s') : notedBy M A env (fun e s' => cameBackBy M A env R e s') e s' := by
  obtain ⟨ea, t, vs, rfl, hs, ht, hb, dn, mu⟩ := x
  refine hs.note hfr ef fun h' held up => ?_
  refine came_back (s := { s' with heap := h' }) ef held fun h'' held' up' => hR _ _ ⟨ea, t, vs, rfl, ⟨held'.1, held'.2.1, held'.2.2.1, .inr (.inr held'.2.2.2)⟩, (ht.of_slots up).of_slots up', hb, dn, (mu.up up).up up'⟩

section
variable {prog : Program} {w : World} {B : Heap} {ad : Ad}
theorem rt_loop {A : Around} {env : Env} {L : Addr} {outer : List Env} {s : Shared} {l : List Nat} {pos : Pos} (hl : LenOk l) (hc : CharsOk l) (c : Cx A 64) (ei : EnvIs env rtSc L) (ef : env.frame = some L) (sk : Stk A B (env :: outer) s.heap)
    (F : FrO ad B L (rtLoc false) s.heap) (O : Obs w B ad (lexA stS (.str "" 0)) (some (sAt ⟨l.toArray⟩ 0)) s.heap) :
    wpAny (model prog w) A (exec (.While rtWhile.1 rtWhile.2 [] pos) env)
      (fun fl s' => fl = .next ∧ ∃ t qd, mach 0 [] false l = some (t, qd) ∧ t.length ≤ l.length ∧ (qd = false → t ≠ []) ∧ FrO ad B L (ncE qd) s'.heap ∧ Obs w B ad (lexA .none (.str ⟨t.toArray⟩ 100)) (some (sAt ⟨l.toArray⟩ l.length)) s'.heap ∧ Mv (L :: ad.ws) s s')
      (fun e s' => mach 0 [] false l = none ∧ ExcO B ad (env :: outer) L "ValueError" [.str "No closing quotation" 20] (L :: ad.ws) s e s') s := by
  have TO := tabO O.found
  refine wpAny_While (codeAny_whileLoop (fun k s' => ∃ p qs tv qd, RtI l p qs tv qd ∧ p ≤ l.length ∧ k = l.length + 1 - p ∧ FrO ad B L (rtLoc qd) s'.heap ∧ Obs w B ad (lexA qs tv) (some (sAt ⟨l.toArray⟩ p)) s'.heap ∧ Mv (L :: ad.ws) s s') (fun k s' hJ => ?_) (l.length + 1)
    ⟨0, stS, .str "" 0, false, .inl ⟨rfl, rfl, rfl, rfl⟩, by lia, by lia, F, O, Mv.refl _ _⟩)
  obtain ⟨p, qs, tv, qd, hI, hp, hk, F', O', mv⟩ := hJ
  refine wpAny_mono ((evAllO TO 60).2 rtWhile.1 ⟨rtLoc qd, lexA qs tv, some (sAt ⟨l.toArray⟩ p)⟩ true (rt_test _) A env L s' _ (c.mono (by lia)) ei F' O') (fun b s₁ h₁ => ?_) fun _ _ z => z
  obtain ⟨rfl, k1⟩ := h₁
  have mv1 := mv.tr (Mv.of_keeps (W := L :: ad.ws) k1)
  simp only [if_true]
  have bodyOk := fun o (he : oxs otab rtSc 61 rtWhile.2 ⟨rtLoc qd, lexA qs tv, some (sAt ⟨l.toArray⟩ p)⟩ = some o) => ((allO (prog := prog) (ad := ad) TO 61) 61 (Nat.le_refl _)).2.2.2 rtSc rtWhile.2 _ o he A env L outer s₁ (c.mono (by lia)) ei ef (sk.mv mv1) (F'.keeps k1) (O'.mv k1)
  by_cases hlt : p < l.length
  · obtain ⟨loc', qs', tv', tv'', qd', he, hloc, hden, hI'⟩ := turn_in hl hc hI hlt
    refine wpAny_mono (bodyOk _ he) (fun fl s₃ h₃ => ?_) fun _ _ z => z.elim
    cases fl <;> try exact h₃.elim
    exact ⟨l.length + 1 - (p + 1), by lia, p + 1, qs', tv'', qd', hI', by lia, rfl, h₃.1.sub hloc, h₃.2.1.re (reLex (hden ad)), mv1.tr h₃.2.2⟩
  · have : p = l.length := by lia
    subst this
    rcases turn_out hl hI with ⟨t, hm, ht, hne, he⟩ | ⟨hm, he⟩
    · refine wpAny_mono (bodyOk _ he) (fun fl s₃ h₃ => ?_) fun _ _ z => z.elim
      cases fl <;> try exact h₃.elim
      exact ⟨trivial, t, qd, hm, ht, hne, h₃.1, h₃.2.1, mv1.tr h₃.2.2⟩
    · refine wpAny_mono (bodyOk _ he) (fun fl s₃ h₃ => h₃.elim) fun e s₃ h₃ => ?_
      have h4 : ExcO B ad (env :: outer) L "ValueError" [.str "No closing quotation" 20] (L :: ad.ws) s e s₃ := by
        obtain ⟨ea, t, vs, h1, h2, h3, h4, h5, h6⟩ := h₃
        exact ⟨ea, t, vs, h1, h2, h3, h4, h5, mv1.thenU (W' := []) h6⟩
      exact ExcO.held sk.fr ef h4 fun e s' hx => ⟨hm, hx⟩

theorem rt_loop_n {A : Around} {env : Env} {L : Addr} {outer : List Env} {s : Shared} {l : List Nat} {pos : Pos} (hl : LenOk l) (c : Cx A 64) (ei : EnvIs env rtSc L) (ef : env.frame = some L) (sk : Stk A B (env :: outer) s.heap)
    (F : FrO ad B L (rtLoc false) s.heap) (O : Obs w B ad (lexA .none (.str "" 0)) (some (sAt ⟨l.toArray⟩ l.length)) s.heap) {E : Value → Shared → Prop} :
    wpAny (model prog w) A (exec (.While rtWhile.1 rtWhile.2 [] pos) env)
      (fun fl s' => fl = .next ∧ FrO ad B L (ncE false) s'.heap ∧ Obs w B ad (lexA .none (.str "" 0)) (some (sAt ⟨l.toArray⟩ l.length)) s'.heap ∧ Mv (L :: ad.ws) s s') E s := by
  have TO := tabO O.found
  have he : oxs otab rtSc 61 rtWhile.2 ⟨rtLoc false, lexA .none (.str "" 0), some (sAt ⟨l.toArray⟩ l.length)⟩ = some (.brk ⟨ncE false, lexA .none (.str "" 0), some (sAt ⟨l.toArray⟩ l.length)⟩) := by
    rw [turn_end hl]; exact turn_N false _
  refine wpAny_While (codeAny_whileLoop (fun k s' => s' = s) (fun k s' hJ => ?_) 0 rfl)
  subst hJ
  refine wpAny_mono ((evAllO TO 60).2 rtWhile.1 ⟨rtLoc false, lexA .none (.str "" 0), some (sAt ⟨l.toArray⟩ l.length)⟩ true (rt_test _) A env L s' _ (c.mono (by lia)) ei F O) (fun b s₁ h₁ => ?_) fun _ _ z => z
  obtain ⟨rfl, k1⟩ := h₁
  simp only [if_true]
  refine wpAny_mono (((allO (prog := prog) (ad := ad) TO 61) 61 (Nat.le_refl _)).2.2.2 rtSc rtWhile.2 _ _ he A env L outer s₁ (c.mono (by lia)) ei ef (sk.mv (Mv.of_keeps (W := []) k1)) (F.keeps k1) (O.mv k1)) (fun fl s₃ h₃ => ?_) fun _ _ z => z.elim
  cases fl <;> try exact h₃.elim
  exact ⟨trivial, h₃.1, h₃.2.1, (Mv.of_keeps k1).tr h₃.2.2⟩
end
end Mine
end
/- S23 -/
section
open PySem PySem.W PyProof.Rows PySem.Calls
set_option Elab.async false
set_option linter.unusedVariables false
set_option linter.unusedSimpArgs false
namespace Mine
set_option maxRecDepth 100000
section
variable {prog : Program} {w : World} {B : Heap} {ad : Ad}
theorem mv_drop {L : Addr} {s s₁ s' : Shared} (kp : Keeps s s₁) (fresh : s.heap.get? L = none) (m : Mv (L :: ad.ws) s₁ s') : Mv ad.ws s s' :=
  (Mv.of_keeps (W := ad.ws) kp).trans m fun x o e n => ⟨n, fun hx => by
    rcases List.mem_cons.mp hx with q | q
    · rw [q, fresh] at e; cases e
    · exact n q⟩
theorem exc_leave {M : Model} {A : Around} {env : Env} {l : List Env} {L : Addr} {cls : String} {args : List OV} {s s₁ : Shared} {e : Value} {s' : Shared} {E' : Value → Shared → Prop} {Q : Unit → Shared → Prop} (hfr : A.frames = some (env :: l)) (ef : env.frame = some L) (kp : Keeps s s₁) (fresh : s.heap.get? L = none)
    (x : ExcO B ad (env :: l) L cls args (L :: ad.ws) s₁ e s') (h : ∀ s'', FlyO B ad l cls args ad.ws s e s'' → Q () s'') : wpAny M A (leaving env e) Q E' s' := by
  obtain ⟨ea, t, us, rfl, hs, ht, hb, dn, mu⟩ := x
  refine hs.leaves (outer := l) hfr ef fun h'' hfl up => h _ ⟨ea, t, us, rfl, hfl, ht.of_slots up, hb, dn, ?_⟩
  have := (Mv.of_keeps (W := L :: ad.ws) kp).thenU (W' := []) (mu.up up)
  exact this.mono fun x o e hx => by
    rcases List.mem_cons.mp hx with q | q
    · rw [q, fresh] at e; cases e
    · exact q

theorem call_hand {F : Fn} (Fo : FnO w F) (Fa : FnAt B F) {n : Nat} {A : Around} {l : List Env} {s : Shared} {vs : List Value} {xs : List OV} {a : Attrs} {b : Option Attrs} {Q : Value → Shared → Prop} {E : Value → Shared → Prop} (c : Cx A (n + 1)) (sk : Stk A B l s.heap) (O : Obs w B ad a b s.heap) (d : DenOs ad vs xs) (hlen : xs.length = F.ps.length)
    (h : ∀ env L s₁, EnvIs env F.fd.scope L → env.frame = some L → Stk (A.deeper env) B (env :: l) s₁.heap → FrO ad B L (F.ps.zip xs).reverse s₁.heap → Obs w B ad a b s₁.heap → Keeps s s₁ → s.heap.get? L = none → Cx (A.deeper env) n →
      wpAny (model prog w) (A.deeper env) (execs F.body env) (fun fl s' => Q (match fl with | .ret v => v | _ => .none) s') (fun e s' => wpAny (model prog w) (A.deeper env) (leaving env e) (fun _ s'' => E e s'') (fun e' s'' => E e' s'') s') s₁) :
    wpAny (model prog w) A (call (.ref F.a) vs) Q E s := by
  obtain ⟨o, ho, hd, _⟩ := Fa.obj
  have hvs : vs.length = F.ps.length := d.length.trans hlen
  have fresh : s.heap.get? s.heap.objs.size = none := size_none _
  refine wpAny_call (codeAny_call_def (by have := c.depth; omega) (O.stays _ _ ho) hd (O.lim.keeps O.stays) (Fa.code.keeps O.stays) Fo.body (Fo.bind s vs O.frag hvs) Fo.cell (fun p hp => Fo.loc p.1 (List.of_mem_zip hp).1) (fun h₀ hn hk => ?_) Fo.co Fo.gen Fo.kind)
  have ei : EnvIs (callEnv F.fd s.heap.objs.size F.a) F.fd.scope s.heap.objs.size := ⟨rfl, rfl, Fo.gl, Fo.bl, Fo.kind⟩
  have ef := callEnv_frame F.fd s.heap.objs.size F.a Fo.kind
  have kp : Keeps s { s with heap := h₀, toks := s.toks + (F.ps.zip vs).length } := ⟨h₀, _, rfl, hk⟩
  have bn : B.get? s.heap.objs.size = none := by
    cases e : B.get? s.heap.objs.size with
    | none => rfl
    | some o => rw [O.stays _ _ e] at fresh; cases fresh
  have Fr : FrO ad B s.heap.objs.size (F.ps.zip xs).reverse h₀ :=
    ⟨⟨_, hn, fun y v e => by simpa using zip_look F.ps vs xs [] [] d (fun y v e => by cases e) y v (by simpa using e)⟩, bn, O.fresh⟩
  refine h _ s.heap.objs.size _ ei ef ⟨Around.frames_deeper sk.fr, ?_⟩ Fr (O.keeps hk) kp fresh (c.deeper _)
  exact .cons (by rw [ei.scp, ei.kind]; decide) ef hn bn ((Mv.of_keeps (W := []) kp).frames sk.fun_)

theorem oxs_then {T : OTab} (TO : TabO w B T) {sc : Scope} {env : Env} {A : Around} {L : Addr} {outer : List Env} {rest : List Stmt} {Q : Flow → Shared → Prop} {E : Value → Shared → Prop} (ei : EnvIs env sc L) (ef : env.frame = some L) {n : Nat} : ∀ {sts : List Stmt} {st st' : OS} {s : Shared}, oxs T sc n sts st = some (.next st') → Cx A (n + 3) →
    Stk A B (env :: outer) s.heap → FrO ad B L st.l s.heap → Obs w B ad st.a st.b s.heap →
    (∀ s', FrO ad B L st'.l s'.heap → Obs w B ad st'.a st'.b s'.heap → Mv (L :: ad.ws) s s' → wpAny (model prog w) A (execs rest env) Q E s') → wpAny (model prog w) A (execs (sts ++ rest) env) Q E s := by
  induction n with
  | zero => intro sts st st' s h; cases h
  | succ n ih =>
    intro sts st st' s h c sk F O k
    have c1 := c.mono (Nat.le_succ _)
    cases sts with
    | nil => cases osome h; exact k s F O (Mv.refl _ _)
    | cons sm r =>
      obtain ⟨o, h1, h2⟩ := obind h
      refine wpAny_execs_cons (wpAny_mono (((allO (prog := prog) (ad := ad) TO n) n (Nat.le_refl _)).2.2.1 sc sm st _ h1 A env L outer s c1 ei ef sk F O) (fun fl s₁ hs => ?_) fun e s₁ hs => ?_)
      · cases o with
        | next st1 =>
          cases fl with
          | next => exact ih h2 c1 (sk.mv hs.2.2) hs.1 hs.2.1 fun s' F' O' mv => k s' F' O' (hs.2.2.tr mv)
          | _ => exact hs.elim
        | _ => cases h2
      · cases o with
        | exc _ _ => cases h2
        | _ => exact hs.elim

theorem rt_ps : rtF.ps = [Str.ofString "self"] := by kernel_rfl
theorem gt_ps : gtF.ps = [Str.ofString "self"] := by kernel_rfl
theorem nx_ps : nxF.ps = [Str.ofString "self"] := by kernel_rfl

theorem loc_rt : ∀ x v, (rtLoc false).lookup x = some v → ([(Str.ofString "escapedstate", OV.str " " 1), (Str.ofString "quoted", .bool false), (Str.ofString "self", .lex)] : Attrs).lookup x = some v := by
  intro x v h
  simp only [rtLoc, List.lookup] at h ⊢
  split at h
  · rename_i q
    have : (x == Str.ofString "escapedstate") = false := by rw [eq_of_beq q]; decide +kernel
    simp only [this]; exact h
  · split at h
    · exact h
    · exact h

/-- what a call of read_token gives -/
theorem read_token_ok {A : Around} {l : List Env} {s : Shared} {cs : List Nat} (hl : LenOk cs) (hc : CharsOk cs) (c : Cx A 65) (sk : Stk A B l s.heap) (O : Obs w B ad (lexA stS (.str "" 0)) (some (sAt ⟨cs.toArray⟩ 0)) s.heap) :
    wpAny (model prog w) A (call (.ref rtF.a) [.ref ad.x])
      (fun u s' => ∃ t qd, mach 0 [] false cs = some (t, qd) ∧ DenO ad u (.str ⟨t.toArray⟩ 100) ∧ Obs w B ad (lexA .none (.str "" 0)) (some (sAt ⟨cs.toArray⟩ cs.length)) s'.heap ∧ Mv ad.ws s s')
      (fun e s' => mach 0 [] false cs = none ∧ FlyO B ad l "ValueError" [.str "No closing quotation" 20] ad.ws s e s') s := by
  have TO := tabO O.found
  refine call_hand (n := 64) (fo8 w) (O.found.fnAt (by decide) (mcode 8 (by decide))) (xs := [.lex]) c sk O (.cons .lex .nil) (by rw [show mFn (mAt 8) = rtF from rfl, rt_ps]; rfl) fun env L s₁ ei ef sk1 F1 O1 kp fresh c1 => ?_
  have F1 : FrO ad B L [(Str.ofString "self", .lex)] s₁.heap := by rw [show mFn (mAt 8) = rtF from rfl, rt_ps] at F1; exact F1
  obtain ⟨pw, hb⟩ := rt_split
  rw [show (mFn (mAt 8)).body = rtF.body from rfl, hb]
  refine oxs_then TO ei ef (rt_head _ _) (c1.mono (by omega)) sk1 F1 O1 fun s2 F2 O2 m2 => ?_
  refine wpAny_execs_cons (wpAny_mono (rt_loop hl hc c1 ei ef (sk1.mv m2) (F2.sub loc_rt) O2) (fun fl s3 h3 => ?_) fun e s3 h3 => ?_)
  · obtain ⟨rfl, t, qd, hm, ht, hne, F3, O3, m3⟩ := h3
    have run := fun o (he : oxs otab rtSc 60 rtTail ⟨ncE qd, lexA .none (.str ⟨t.toArray⟩ 100), some (sAt ⟨cs.toArray⟩ cs.length)⟩ = some o) =>
      ((allO (prog := prog) (ad := ad) TO 60) 60 (Nat.le_refl _)).2.2.2 rtSc rtTail _ o he (A.deeper env) env L l s3 (c1.mono (by omega)) ei ef ((sk1.mv m2).mv m3) F3 O3
    have fin : ∀ st', oxs otab rtSc 60 rtTail ⟨ncE qd, lexA .none (.str ⟨t.toArray⟩ 100), some (sAt ⟨cs.toArray⟩ cs.length)⟩ = some (.ret (.str ⟨t.toArray⟩ 100) st') → st'.a = lexA .none (.str "" 0) → st'.b = some (sAt ⟨cs.toArray⟩ cs.length) →
        wpAny (model prog w) (A.deeper env) (execs rtTail env) (fun fl s' => ∃ t qd, mach 0 [] false cs = some (t, qd) ∧ DenO ad (match fl with | .ret v => v | _ => .none) (.str ⟨t.toArray⟩ 100) ∧ Obs w B ad (lexA .none (.str "" 0)) (some (sAt ⟨cs.toArray⟩ cs.length)) s'.heap ∧ Mv ad.ws s s')
          (fun e s' => wpAny (model prog w) (A.deeper env) (leaving env e) (fun _ s'' => mach 0 [] false cs = none ∧ FlyO B ad l "ValueError" [.str "No closing quotation" 20] ad.ws s e s'') (fun e' s'' => mach 0 [] false cs = none ∧ FlyO B ad l "ValueError" [.str "No closing quotation" 20] ad.ws s e' s'') s') s3 := by
      intro st' he ha hbb
      refine wpAny_mono (run _ he) (fun fl s4 h4 => ?_) fun _ _ z => z.elim
      cases fl <;> try exact h4.elim
      exact ⟨t, qd, hm, h4.1, by rw [← ha, ← hbb]; exact h4.2.1, mv_drop kp fresh ((m2.tr m3).tr h4.2.2)⟩
    cases qd with
    | true => exact fin _ (rt_tail_t _ _) rfl rfl
    | false =>
      cases t with
      | nil => exact absurd rfl (hne rfl)
      | cons c0 r => exact fin _ (rt_tail_f c0 r _) rfl rfl
  · obtain ⟨hm, hx⟩ := h3
    have hx' : ExcO B ad (env :: l) L "ValueError" [.str "No closing quotation" 20] (L :: ad.ws) s₁ e s3 := by
      obtain ⟨ea, t, vs, h1, h2, h3, h4, h5, h6⟩ := hx
      exact ⟨ea, t, vs, h1, h2, h3, h4, h5, m2.thenU (W' := []) h6⟩
    exact exc_leave sk1.fr ef kp fresh hx' fun s'' hf => ⟨hm, hf⟩

theorem read_token_n {A : Around} {l : List Env} {s : Shared} {cs : List Nat} {E : Value → Shared → Prop} (hl : LenOk cs) (c : Cx A 65) (sk : Stk A B l s.heap) (O : Obs w B ad (lexA .none (.str "" 0)) (some (sAt ⟨cs.toArray⟩ cs.length)) s.heap) :
    wpAny (model prog w) A (call (.ref rtF.a) [.ref ad.x])
      (fun u s' => u = .none ∧ Obs w B ad (lexA .none (.str "" 0)) (some (sAt ⟨cs.toArray⟩ cs.length)) s'.heap ∧ Mv ad.ws s s') E s := by
  have TO := tabO O.found
  refine call_hand (n := 64) (fo8 w) (O.found.fnAt (by decide) (mcode 8 (by decide))) (xs := [.lex]) c sk O (.cons .lex .nil) (by rw [show mFn (mAt 8) = rtF from rfl, rt_ps]; rfl) fun env L s₁ ei ef sk1 F1 O1 kp fresh c1 => ?_
  have F1 : FrO ad B L [(Str.ofString "self", .lex)] s₁.heap := by rw [show mFn (mAt 8) = rtF from rfl, rt_ps] at F1; exact F1
  obtain ⟨pw, hb⟩ := rt_split
  rw [show (mFn (mAt 8)).body = rtF.body from rfl, hb]
  refine oxs_then TO ei ef (rt_head _ _) (c1.mono (by omega)) sk1 F1 O1 fun s2 F2 O2 m2 => ?_
  refine wpAny_execs_cons (wpAny_mono (rt_loop_n hl c1 ei ef (sk1.mv m2) (F2.sub loc_rt) O2) (fun fl s3 h3 => ?_) fun e s3 h3 => h3)
  obtain ⟨rfl, F3, O3, m3⟩ := h3
  refine wpAny_mono (((allO (prog := prog) (ad := ad) TO 60) 60 (Nat.le_refl _)).2.2.2 rtSc rtTail _ _ (rt_tail_n _) (A.deeper env) env L l s3 (c1.mono (by omega)) ei ef ((sk1.mv m2).mv m3) F3 O3) (fun fl s4 h4 => ?_) fun _ _ z => z.elim
  cases fl <;> try exact h4.elim
  obtain ⟨d, O4, m4⟩ := h4
  cases d
  exact ⟨rfl, O4, mv_drop kp fresh ((m2.tr m3).tr m4)⟩
end
end Mine
end
/- S24 -/
section
open PySem PySem.W PyProof.Rows PySem.Calls
set_option Elab.async false
set_option linter.unusedVariables false
set_option linter.unusedSimpArgs false
namespace Mine
set_option maxRecDepth 100000
theorem k_rt (w : World) : findIn (kFrag w) (.ref 722) "read_token" = some (some (.ref 690)) ∧ typeIn (kFrag w) (.ref 690) = some (.type "function") := ⟨by kernel_rfl, by kernel_rfl⟩
theorem k_gt (w : World) : findIn (kFrag w) (.ref 722) "get_token" = some (some (.ref 683)) ∧ typeIn (kFrag w) (.ref 683) = some (.type "function") := ⟨by kernel_rfl, by kernel_rfl⟩
theorem rt_a : rtF.a = 690 := by kernel_rfl
theorem gt_a : gtF.a = 683 := by kernel_rfl
theorem nx_a : nxF.a = 719 := by kernel_rfl
section
variable {prog : Program} {w : World} {B : Heap} {ad : Ad}
theorem asg_ok {A : Around} {env : Env} {sc : Scope} {L : Addr} {s : Shared} {sm : Stmt} {x m : Str} {loc a : Attrs} {b : Option Attrs} {f : Addr} {Q : Flow → Shared → Prop} {E : Value → Shared → Prop} (hs : asgMeth sm = some (x, Str.ofString "self", m)) (ei : EnvIs env sc L)
    (hx : sc.names.lookup x = some .local) (hself : sc.names.lookup (Str.ofString "self") = some .local) (F : FrO ad B L loc s.heap) (hloc : loc.lookup (Str.ofString "self") = some .lex) (O : Obs w B ad a b s.heap)
    (hm : findIn (kFrag w) (.ref 722) m = some (some (.ref f))) (ht : typeIn (kFrag w) (.ref f) = some (.type "function")) (hno : lexAttrs.contains m = false) (fo : ∃ o fd, B.get? f = some o ∧ o.data = .func fd)
    (hcall : wpAny (model prog w) A (call (.ref f) [.ref ad.x]) (fun u s₁ => ∃ v a' b', DenO ad u v ∧ Obs w B ad a' b' s₁.heap ∧ Mv ad.ws s s₁ ∧ ∀ s₂, FrO ad B L ((x, v) :: loc) s₂.heap → Obs w B ad a' b' s₂.heap → Mv (L :: ad.ws) s s₂ → Q .next s₂) E s) :
    wpAny (model prog w) A (exec sm env) Q E s := by
  obtain ⟨px, py, ap, cp, p, rfl, hl⟩ := asgMeth_ok hs
  obtain ⟨o, fd, ho, hd⟩ := fo
  refine wpAny_Assign_Name (MethodCallG rfl rfl (by simp) hl (wpAny_mono (nameL_ok (st := ⟨loc, a, b⟩) hself (by decide +kernel) hloc ei F) (fun ov s₁ h₁ pl => ?_) fun _ _ z => z)) rfl
  obtain ⟨rfl, d⟩ := h₁
  cases d
  refine method_R O.frag (lexOk w) O.ix hm ht ?_ (callWith_meth0 hd (O.stays _ _ ho) (wpAny_mono hcall (fun u s₂ h₂ => ?_) fun _ _ z => z))
  · cases q : (a.map (·.1)).contains m with
    | false => rfl
    | true => have := O.na m (by simpa using q); rw [hno] at this; cases this
  · obtain ⟨v, a', b', dv, O2, mv, k⟩ := h₂
    have F2 := F.mv mv
    refine wpAny_mono (storeO hx ei F2 dv) (fun _ s₃ h₃ => ?_) fun _ _ z => z
    exact k s₃ h₃.1 (O2.mvL F2 h₃.2) ((wsL mv).tr (mvL1 h₃.2))

theorem fly_exc {L : Addr} {l : List Env} {cls : String} {args : List OV} {s s₁ : Shared} {e : Value} {s' : Shared} (m : Mv (L :: ad.ws) s s₁) (h : FlyO B ad l cls args ad.ws s₁ e s') : ExcO B ad l L cls args (L :: ad.ws) s e s' := by
  obtain ⟨ea, t, vs, h1, h2, h3, h4, h5, h6⟩ := h
  exact ⟨ea, t, vs, h1, ⟨h2.1, h2.2.1, h2.2.2.1, .inr (.inl h2.2.2.2)⟩, h3, h4, h5, m.thenU (W' := []) (h6.mono fun x o _ hx => List.mem_cons_of_mem _ hx)⟩

theorem gt_names : gtSc.names.lookup (Str.ofString "raw") = some .local ∧ gtSc.names.lookup (Str.ofString "self") = some .local ∧ nxSc.names.lookup (Str.ofString "token") = some .local ∧ nxSc.names.lookup (Str.ofString "self") = some .local := ⟨by kernel_rfl, by kernel_rfl, by kernel_rfl, by kernel_rfl⟩

theorem get_token_ok {A : Around} {l : List Env} {s : Shared} {cs : List Nat} (hl : LenOk cs) (hc : CharsOk cs) (c : Cx A 66) (sk : Stk A B l s.heap) (O : Obs w B ad (lexA stS (.str "" 0)) (some (sAt ⟨cs.toArray⟩ 0)) s.heap) :
    wpAny (model prog w) A (call (.ref gtF.a) [.ref ad.x])
      (fun u s' => ∃ t qd, mach 0 [] false cs = some (t, qd) ∧ DenO ad u (.str ⟨t.toArray⟩ 100) ∧ Obs w B ad (lexA .none (.str "" 0)) (some (sAt ⟨cs.toArray⟩ cs.length)) s'.heap ∧ Mv ad.ws s s')
      (fun e s' => mach 0 [] false cs = none ∧ FlyO B ad l "ValueError" [.str "No closing quotation" 20] ad.ws s e s') s := by
  have TO := tabO O.found
  refine call_hand (n := 65) (fo7 w) (O.found.fnAt (by decide) (mcode 7 (by decide))) (xs := [.lex]) c sk O (.cons .lex .nil) (by rw [show mFn (mAt 7) = gtF from rfl, gt_ps]; rfl) fun env L s₁ ei ef sk1 F1 O1 kp fresh c1 => ?_
  have F1 : FrO ad B L [(Str.ofString "self", .lex)] s₁.heap := by rw [show mFn (mAt 7) = gtF from rfl, gt_ps] at F1; exact F1
  rw [show (mFn (mAt 7)).body = gtF.body from rfl, gt_split]
  refine oxs_then TO ei ef (gt_head _ _ _) (c1.mono (by lia)) sk1 F1 O1 fun s2 F2 O2 m2 => ?_
  obtain ⟨ob, ho, hd, _⟩ := (O.found.fnAt (i := 8) (by decide) (mcode 8 (by decide))).obj
  refine wpAny_execs_cons (asg_ok gt_asg ei gt_names.1 gt_names.2.1 F2 rfl O2 (k_rt w).1 (k_rt w).2 (by decide +kernel) ⟨ob, _, ho, hd⟩ (wpAny_mono (by rw [← rt_a]; exact read_token_ok hl hc c1 (sk1.mv m2) O2) (fun u s3 h3 => ?_) fun e s3 h3 => ?_))
  · obtain ⟨t, qd, hm, d, O3, m3⟩ := h3
    refine ⟨_, _, _, d, O3, m3, fun s4 F4 O4 m4 => ?_⟩
    refine wpAny_mono (((allO (prog := prog) (ad := ad) TO 60) 60 (Nat.le_refl _)).2.2.2 gtSc gtTail _ _ (gt_tail _ _ _ _) (A.deeper env) env L l s4 (c1.mono (by lia)) ei ef ((sk1.mv m2).mv m4) F4 O4) (fun fl s5 h5 => ?_) fun _ _ z => z.elim
    cases fl <;> try exact h5.elim
    exact ⟨t, qd, hm, h5.1, h5.2.1, mv_drop kp fresh ((m2.tr m4).tr h5.2.2)⟩
  · obtain ⟨hm, hx⟩ := h3
    exact exc_leave sk1.fr ef kp fresh (fly_exc m2 hx) fun s'' hf => ⟨hm, hf⟩

theorem get_token_n {A : Around} {l : List Env} {s : Shared} {cs : List Nat} {E : Value → Shared → Prop} (hl : LenOk cs) (c : Cx A 66) (sk : Stk A B l s.heap) (O : Obs w B ad (lexA .none (.str "" 0)) (some (sAt ⟨cs.toArray⟩ cs.length)) s.heap) :
    wpAny (model prog w) A (call (.ref gtF.a) [.ref ad.x]) (fun u s' => u = .none ∧ Obs w B ad (lexA .none (.str "" 0)) (some (sAt ⟨cs.toArray⟩ cs.length)) s'.heap ∧ Mv ad.ws s s') E s := by
  have TO := tabO O.found
  refine call_hand (n := 65) (fo7 w) (O.found.fnAt (by decide) (mcode 7 (by decide))) (xs := [.lex]) c sk O (.cons .lex .nil) (by rw [show mFn (mAt 7) = gtF from rfl, gt_ps]; rfl) fun env L s₁ ei ef sk1 F1 O1 kp fresh c1 => ?_
  have F1 : FrO ad B L [(Str.ofString "self", .lex)] s₁.heap := by rw [show mFn (mAt 7) = gtF from rfl, gt_ps] at F1; exact F1
  rw [show (mFn (mAt 7)).body = gtF.body from rfl, gt_split]
  refine oxs_then TO ei ef (gt_head _ _ _) (c1.mono (by lia)) sk1 F1 O1 fun s2 F2 O2 m2 => ?_
  obtain ⟨ob, ho, hd, _⟩ := (O.found.fnAt (i := 8) (by decide) (mcode 8 (by decide))).obj
  refine wpAny_execs_cons (asg_ok gt_asg ei gt_names.1 gt_names.2.1 F2 rfl O2 (k_rt w).1 (k_rt w).2 (by decide +kernel) ⟨ob, _, ho, hd⟩ (wpAny_mono (by rw [← rt_a]; exact read_token_n hl c1 (sk1.mv m2) O2) (fun u s3 h3 => ?_) fun e s3 h3 => h3))
  obtain ⟨rfl, O3, m3⟩ := h3
  refine ⟨_, _, _, .none, O3, m3, fun s4 F4 O4 m4 => ?_⟩
  refine wpAny_mono (((allO (prog := prog) (ad := ad) TO 60) 60 (Nat.le_refl _)).2.2.2 gtSc gtTail _ _ (gt_tail_n _ _ _) (A.deeper env) env L l s4 (c1.mono (by lia)) ei ef ((sk1.mv m2).mv m4) F4 O4) (fun fl s5 h5 => ?_) fun _ _ z => z.elim
  cases fl <;> try exact h5.elim
  obtain ⟨d, O5, m5⟩ := h5
  cases d
  exact ⟨rfl, O5, mv_drop kp fresh ((m2.tr m4).tr m5)⟩

theorem next_ok {A : Around} {l : List Env} {s : Shared} {cs : List Nat} (hl : LenOk cs) (hc : CharsOk cs) (c : Cx A 67) (sk : Stk A B l s.heap) (O : Obs w B ad (lexA stS (.str "" 0)) (some (sAt ⟨cs.toArray⟩ 0)) s.heap) :
    wpAny (model prog w) A (call (.ref nxF.a) [.ref ad.x])
      (fun u s' => ∃ t qd, mach 0 [] false cs = some (t, qd) ∧ DenO ad u (.str ⟨t.toArray⟩ 100) ∧ Obs w B ad (lexA .none (.str "" 0)) (some (sAt ⟨cs.toArray⟩ cs.length)) s'.heap ∧ Mv ad.ws s s')
      (fun e s' => mach 0 [] false cs = none ∧ FlyO B ad l "ValueError" [.str "No closing quotation" 20] ad.ws s e s') s := by
  have TO := tabO O.found
  refine call_hand (n := 66) (fo10 w) (O.found.fnAt (by decide) (mcode 10 (by decide))) (xs := [.lex]) c sk O (.cons .lex .nil) (by rw [show mFn (mAt 10) = nxF from rfl, nx_ps]; rfl) fun env L s₁ ei ef sk1 F1 O1 kp fresh c1 => ?_
  have F1 : FrO ad B L [(Str.ofString "self", .lex)] s₁.heap := by rw [show mFn (mAt 10) = nxF from rfl, nx_ps] at F1; exact F1
  rw [show (mFn (mAt 10)).body = nxF.body from rfl, nx_split]
  obtain ⟨ob, ho, hd, _⟩ := (O.found.fnAt (i := 7) (by decide) (mcode 7 (by decide))).obj
  refine wpAny_execs_cons (asg_ok nx_asg ei gt_names.2.2.1 gt_names.2.2.2 F1 rfl O1 (k_gt w).1 (k_gt w).2 (by decide +kernel) ⟨ob, _, ho, hd⟩ (wpAny_mono (by rw [← gt_a]; exact get_token_ok hl hc c1 sk1 O1) (fun u s3 h3 => ?_) fun e s3 h3 => ?_))
  · obtain ⟨t, qd, hm, d, O3, m3⟩ := h3
    refine ⟨_, _, _, d, O3, m3, fun s4 F4 O4 m4 => ?_⟩
    refine wpAny_mono (((allO (prog := prog) (ad := ad) TO 60) 60 (Nat.le_refl _)).2.2.2 nxSc nxTail _ _ (nx_tail _ _ _ _) (A.deeper env) env L l s4 (c1.mono (by lia)) ei ef (sk1.mv m4) F4 O4) (fun fl s5 h5 => ?_) fun _ _ z => z.elim
    cases fl <;> try exact h5.elim
    exact ⟨t, qd, hm, h5.1, h5.2.1, mv_drop kp fresh (m4.tr h5.2.2)⟩
  · obtain ⟨hm, hx⟩ := h3
    exact exc_leave sk1.fr ef kp fresh (fly_exc (Mv.refl _ _) hx) fun s'' hf => ⟨hm, hf⟩

theorem next_n {A : Around} {l : List Env} {s : Shared} {cs : List Nat} {Q : Value → Shared → Prop} (hl : LenOk cs) (c : Cx A 67) (sk : Stk A B l s.heap) (O : Obs w B ad (lexA .none (.str "" 0)) (some (sAt ⟨cs.toArray⟩ cs.length)) s.heap) :
    wpAny (model prog w) A (call (.ref nxF.a) [.ref ad.x]) Q (fun e s' => FlyO B ad l "StopIteration" [] ad.ws s e s') s := by
  have TO := tabO O.found
  refine call_hand (n := 66) (fo10 w) (O.found.fnAt (by decide) (mcode 10 (by decide))) (xs := [.lex]) c sk O (.cons .lex .nil) (by rw [show mFn (mAt 10) = nxF from rfl, nx_ps]; rfl) fun env L s₁ ei ef sk1 F1 O1 kp fresh c1 => ?_
  have F1 : FrO ad B L [(Str.ofString "self", .lex)] s₁.heap := by rw [show mFn (mAt 10) = nxF from rfl, nx_ps] at F1; exact F1
  rw [show (mFn (mAt 10)).body = nxF.body from rfl, nx_split]
  obtain ⟨ob, ho, hd, _⟩ := (O.found.fnAt (i := 7) (by decide) (mcode 7 (by decide))).obj
  refine wpAny_execs_cons (asg_ok nx_asg ei gt_names.2.2.1 gt_names.2.2.2 F1 rfl O1 (k_gt w).1 (k_gt w).2 (by decide +kernel) ⟨ob, _, ho, hd⟩ (wpAny_mono (by rw [← gt_a]; exact get_token_n (E := fun _ _ => False) hl c1 sk1 O1) (fun u s3 h3 => ?_) fun e s3 h3 => False.elim h3))
  obtain ⟨rfl, O3, m3⟩ := h3
  refine ⟨_, _, _, .none, O3, m3, fun s4 F4 O4 m4 => ?_⟩
  refine wpAny_mono (((allO (prog := prog) (ad := ad) TO 60) 60 (Nat.le_refl _)).2.2.2 nxSc nxTail _ _ (nx_tail_n _ _ _) (A.deeper env) env L l s4 (c1.mono (by lia)) ei ef (sk1.mv m4) F4 O4) (fun fl s5 h5 => h5.elim) fun e s5 h5 => ?_
  exact exc_leave sk1.fr ef kp fresh (eout_mv m4 (out := .exc "StopIteration" []) h5) fun s'' hf => hf
end
end Mine
end
/- S25 -/
section
open PySem PySem.W PyProof.Rows PySem.Calls Builtin
set_option Elab.async false
set_option linter.unusedVariables false
set_option linter.unusedSimpArgs false
namespace Mine
set_option maxRecDepth 100000
theorem k_it (w : World) : findIn (kFrag w) (.ref 722) "__iter__" = some (some (.ref 712)) ∧ isFn (kFrag w) (.ref 712) = true ∧ findIn (kFrag w) (.ref 722) "__next__" = some (some (.ref 719)) ∧ isFn (kFrag w) (.ref 719) = true ∧
    findIn (kFrag w) (.ref 722) "__len__" = some none ∧ findIn (kFrag w) (.ref 722) "__length_hint__" = some none := ⟨by kernel_rfl, by kernel_rfl, by kernel_rfl, by kernel_rfl, by kernel_rfl, by kernel_rfl⟩
noncomputable def itF : Fn := mFn (mAt 9)
noncomputable def itSc : Scope := itF.fd.scope
theorem it_a : itF.a = 712 := by kernel_rfl
theorem it_ps : itF.ps = [Str.ofString "self"] := by kernel_rfl
theorem it_body (a : Attrs) (b : Option Attrs) : oxs otab itSc 60 itF.body ⟨[(Str.ofString "self", .lex)], a, b⟩ = some (.ret .lex ⟨[(Str.ofString "self", .lex)], a, b⟩) := by kernel_rfl
theorem sub_ve : isSubtype (.type "ValueError") (.type "StopIteration") = pure false := by rw [isSubtype_type]; kernel_rfl
theorem sub_si : isSubtype (.type "StopIteration") (.type "StopIteration") = pure true := by rw [isSubtype_type]; kernel_rfl
section
variable {prog : Program} {w : World} {B : Heap} {ad : Ad}
theorem Obs.fr {a : Attrs} {b : Option Attrs} {h : Heap} (O : Obs w B ad a b h) : ∃ m, Fr B ad.dx h m := by
  obtain ⟨m, hm, _⟩ := O.ix.ns
  exact ⟨m, hm.ns, O.stays, O.up⟩
theorem iter_call {A : Around} {l : List Env} {s : Shared} {a : Attrs} {b : Option Attrs} {E : Value → Shared → Prop} (c : Cx A 64) (sk : Stk A B l s.heap) (O : Obs w B ad a b s.heap) :
    wpAny (model prog w) A (call (.ref 712) [.ref ad.x]) (fun u s' => u = .ref ad.x ∧ Obs w B ad a b s'.heap ∧ Mv ad.ws s s') E s := by
  have TO := tabO O.found
  rw [← it_a]
  refine call_hand (n := 63) (fo9 w) (O.found.fnAt (by decide) (mcode 9 (by decide))) (xs := [.lex]) c sk O (.cons .lex .nil) (by rw [show mFn (mAt 9) = itF from rfl, it_ps]; rfl) fun env L s₁ ei ef sk1 F1 O1 kp fresh c1 => ?_
  have F1 : FrO ad B L [(Str.ofString "self", .lex)] s₁.heap := by rw [show mFn (mAt 9) = itF from rfl, it_ps] at F1; exact F1
  refine wpAny_mono (((allO (prog := prog) (ad := ad) TO 60) 60 (Nat.le_refl _)).2.2.2 itSc itF.body _ _ (it_body _ _) (A.deeper env) env L l s₁ (c1.mono (by lia)) ei ef sk1 F1 O1) (fun fl s4 h4 => ?_) fun _ _ z => z.elim
  cases fl <;> try exact h4.elim
  obtain ⟨d, O4, m4⟩ := h4
  cases d
  exact ⟨rfl, O4, mv_drop kp fresh m4⟩
theorem fly_type {l : List Env} {cls : String} {args : List OV} {W : List Addr} {s s' : Shared} {e : Value} (h : FlyO B ad l cls args W s e s') : s'.TypeIs e cls := by
  obtain ⟨ea, t, vs, rfl, h2, _⟩ := h
  obtain ⟨ob, h3, h4⟩ := h2.there
  exact ⟨ob, h3, h4⟩

theorem Obs.listAt {s s' : Shared} {a : Attrs} {b : Option Attrs} {S : Addr} {o : Obj} {xs : Array Value} {n : Nat} (O : Obs w B ad a b s.heap) (hS : s.heap.get? S = some o) (hd : o.data = .seq xs n) (bn : B.get? S = none) (nS : S ∉ ad.ws) (m : Mv [S] s s') : Obs w B ad a b s'.heap := by
  have ne : ∀ x ob, s.heap.get? x = some ob → (∀ ys k, ob.data ≠ .seq ys k) → x ∉ [S] := fun x ob e nd hx => by
    rw [List.mem_singleton.mp hx, hS] at e; cases e; exact nd _ _ hd
  have nx : ad.dx ∉ [S] := fun hx => nS (by rw [← List.mem_singleton.mp hx]; exact List.mem_cons_self ..)
  have ny : ad.dy ∉ [S] := fun hx => nS (by rw [← List.mem_singleton.mp hx]; exact List.mem_cons_of_mem _ (List.mem_singleton_self _))
  refine ⟨O.ix.keeps fun b o hb e => ?_, fun l' e => ⟨(O.iy l' e).1.keeps fun b o hb e' => ?_, (O.iy l' e).2⟩, fun d hd => ?_, m.stays O.stays fun x hx => by rw [List.mem_singleton.mp hx]; exact bn, O.newX, O.newY, O.found, O.lim, O.nd, O.up, O.na, O.nb⟩
  · rcases hb with rfl | rfl
    · exact m.keep _ _ (ne _ _ O.ix.obj fun _ _ z => by cases z) e
    · exact m.keep _ _ nx e
  · rcases hb with rfl | rfl
    · exact m.keep _ _ (ne _ _ (O.iy l' e).1.obj fun _ _ z => by cases z) e'
    · exact m.keep _ _ ny e'
  · obtain ⟨o, ho, hc, vs, hv, hz⟩ := O.dq d hd
    exact ⟨o, m.keep _ _ (ne _ _ ho fun _ _ z => by rw [hv] at z; cases z) ho, hc, vs, hv, hz⟩
theorem mv_list {s : Shared} {S : Addr} {xs : Array Value} {n : Nat} {h' : Heap} {o o' : Obj} (hS : s.heap.get? S = some o) (hS' : h'.get? S = some o') (hd : ∀ vs, o'.data ≠ .fields vs) (oth : ∀ b o, b ≠ S → s.heap.get? b = some o → h'.get? b = some o) : Mv [S] s { s with heap := h' } :=
  ⟨⟨h', s.toks, rfl⟩, fun b o nb e => oth b o (fun z => nb (by rw [z]; exact List.mem_singleton_self _)) e, fun b o e nd => by
    by_cases q : b = S
    · subst q; exact ⟨o', hS', hd⟩
    · exact ⟨o, oth b o q e, nd⟩⟩

/-- what list(lex) gives -/
theorem list_lex {A : Around} {l : List Env} {s : Shared} {cs : List Nat} {Q E : Value → Shared → Prop} (hl : LenOk cs) (hc : CharsOk cs) (c : Cx A 90) (sk : Stk A B l s.heap) (O : Obs w B ad (lexA stS (.str "" 0)) (some (sAt ⟨cs.toArray⟩ 0)) s.heap)
    (hQ : ∀ a u t qd s', mach 0 [] false cs = some (t, qd) → s.heap.get? a = none → s'.heap.IsList a #[u] → DenO ad u (.str ⟨t.toArray⟩ 100) → B.StaysIn s'.heap → MvU ad.ws s s' → Q (.ref a) s')
    (hE : ∀ e s', mach 0 [] false cs = none → FlyO B ad l "ValueError" [.str "No closing quotation" 20] ad.ws s e s' → E e s') :
    wpAny (model prog w) A (call (.type "list") [.ref ad.x]) Q E s := by
  have nf : s.heap.get? s.heap.objs.size = none := size_none _
  refine callType_codes (Q₁ := fun obj s₁ => obj = .ref s.heap.objs.size ∧ s₁ = { s with heap := s.heap.push { cls := .type "list", data := .seq #[] } }) F.called_list (F.typeCall_list_1 _) F.entry_list_init
    (code_list_new _ ⟨rfl, rfl⟩) fun obj s₁ h₁ => ?_
  obtain ⟨rfl, rfl⟩ := h₁
  have hS : (s.heap.push { cls := .type "list", data := .seq #[] }).get? s.heap.objs.size = some { cls := .type "list", data := .seq #[] } := Heap.get?_push_size _ rfl
  refine ⟨⟨_, hS, rfl⟩, F.args_list_init_2 _ _, ?_⟩
  generalize hSa : s.heap.objs.size = S at *
  show wpAny _ A.in1.in1 (do let old ← Builtin.List.listItems (.ref S); Builtin.List.listUpdate (.ref S) (fun _ => #[]); letGo old.toList.reverse; Builtin.List.listExtendWith (.ref S) (.ref ad.x) .none) _ _ _
  have c1 : Cx A.in1.in1 88 := (c.in1).in1
  have sk1 : Stk A.in1.in1 B l s.heap := ⟨sk.fr, sk.fun_⟩
  refine wpAny_bind ?_
  unfold Builtin.List.listItems
  refine wpAny_bind (wpAny_seqItems hS rfl (wpAny_pure ?_))
  show wpAny _ _ (updateSeq S (fun _ => #[]) >>= fun _ => letGo (#[] : Array Value).toList.reverse >>= fun _ => Builtin.List.listExtendWith (.ref S) (.ref ad.x) .none) _ _ _
  refine wpAny_bind (wpAny_updateSeq hS rfl ?_)
  have hS₂ := Heap.get?_update_self (Obj.mapSeq (fun _ => (#[] : Array Value))) hS rfl
  have oth : ∀ b o, s.heap.get? b = some o → ((s.heap.push { cls := .type "list", data := .seq #[] }).update S (Obj.mapSeq (fun _ => (#[] : Array Value)))).get? b = some o :=
    fun b o e => (Heap.get?_update_other _ _ (fun z => by rw [← z, nf] at e; cases e)).trans (Heap.get?_push_of_some _ e)
  refine wpAny_bind (wpAny_letGo ?_)
  generalize hh2 : ((s.heap.push { cls := .type "list", data := .seq #[] }).update S (Obj.mapSeq (fun _ => (#[] : Array Value)))) = h2 at *
  have k2 : Keeps s { s with heap := h2 } := ⟨h2, _, rfl, oth⟩
  have O2 : Obs w B ad (lexA stS (.str "" 0)) (some (sAt ⟨cs.toArray⟩ 0)) h2 := O.keeps oth
  have sk2 : Stk A.in1.in1 B l h2 := ⟨sk.fr, (Mv.of_keeps (W := []) k2).frames sk.fun_⟩
  obtain ⟨od2, I2, _⟩ := O2.ix.at
  obtain ⟨kit, fit, knx, fnx, kln, klh⟩ := k_it w
  have hSx : S ≠ ad.x := fun z => by have := O.ix.obj; rw [← z, nf] at this; cases this
  unfold Builtin.List.listExtendWith
  refine wpAny_bind (I2.type _ _ _ _ (fun _ _ e => e) ?_)
  have h1 : Builtin.List.listSameRef (.ref S) (.ref ad.x) = false := by simp [Builtin.List.listSameRef, hSx]
  have h2' : (Value.ref 722 == Value.type "list") = false := by decide
  have h3' : (Value.ref 722 == Value.type "tuple") = false := by decide
  simp only [h1, h2', h3', Bool.or_false, Bool.false_eq_true, if_false]
  obtain ⟨m2, Fr2⟩ := O2.fr
  refine wpAny_bind (owit_iter (s := { s with heap := h2 }) Fr2 O2.found.frag I2 kit fit (wpAny_mono (iter_call (s := { s with heap := h2 }) (c1.mono (by lia)) sk2 O2) (fun u s3 h3 => ?_) fun _ _ z => z))
  obtain ⟨rfl, O3, mv3⟩ := h3
  obtain ⟨od3, I3, _⟩ := O3.ix.at
  obtain ⟨m3, Fr3⟩ := O3.fr
  refine owit_it Fr3 O3.found.frag I3 knx ?_
  refine wpAny_bind (wpAny_holding ?_)
  unfold Builtin.List.listLengthHint
  refine wpAny_bind (wpAny_bind (I3.type.here ((looks_findIn O3.frag kln).here ?_)))
  show wpAny _ _ (specialOf (Value.ref ad.x) (Str.ofString "__length_hint__") >>= _) _ _ _
  refine wpAny_bind (wpAny_bind (I3.type.here ((looks_findIn O3.frag klh).here ?_)))
  refine wpAny_pure ?_
  show wpAny _ _ (rule "list.extend.makes-room" >>= fun _ => Builtin.List.listTouch (.ref S) >>= fun _ => again (.builtin "list.extend.loop" ⟨[.ref S, .ref ad.x, .none], []⟩)) _ _ _
  refine wpAny_bind (wpAny_rule (wpAny_bind ?_))
  show wpAny _ _ (updateSeq S (·.push .none) >>= fun _ => updateSeq S (·.pop)) _ _ _
  have nS : S ∉ ad.ws := by have := O.fresh; rw [hSa] at this; exact this
  have hS3 : s3.heap.get? S = some { cls := .type "list", data := .seq #[] } := mv3.keep S _ nS hS₂
  refine wpAny_bind (wpAny_updateSeq hS3 rfl ?_)
  have hS4 := Heap.get?_update_self (Obj.mapSeq (·.push Value.none)) hS3 rfl
  refine wpAny_updateSeq (hz := by seq_fits) hS4 rfl ?_
  have hS5 := Heap.get?_update_self (Obj.mapSeq (·.pop)) hS4 rfl
  have oth5 : ∀ b o, b ≠ S → s3.heap.get? b = some o → ((s3.heap.update S (Obj.mapSeq (·.push Value.none))).update S (Obj.mapSeq (·.pop))).get? b = some o :=
    fun b o hb e => (Heap.get?_update_other _ _ (Ne.symm hb)).trans ((Heap.get?_update_other _ _ (Ne.symm hb)).trans e)
  generalize hh5 : ((s3.heap.update S (Obj.mapSeq (·.push Value.none))).update S (Obj.mapSeq (·.pop))) = h5 at *
  refine wpAny_pure ⟨plainId_quiet F.plain_extend_loop _, codeAny_builtin F.entry_extend_loop ?_⟩
  rw [Around.under_plainId F.plain_extend_loop _]
  show wpAny _ _ (pyNext (.ref ad.x) >>= _) _ _ _
  have hS5 : h5.get? S = some { cls := .type "list", dict := none, data := .seq #[] 2, slots := #[] } := hS5
  have bnS : B.get? S = none := by
    cases e : B.get? S with
    | none => rfl
    | some o => rw [O.stays _ _ e] at nf; cases nf
  have m5 : Mv [S] s3 { s3 with heap := h5 } := mv_list (xs := #[]) (n := 0) hS3 hS5 (fun vs z => by cases z) oth5
  have O5 : Obs w B ad (lexA stS (.str "" 0)) (some (sAt ⟨cs.toArray⟩ 0)) h5 := O3.listAt hS3 rfl bnS nS m5
  have mS : ∀ {s' s'' : Shared}, Mv ad.ws s s' → Mv [S] s' s'' → Mv ad.ws s s'' := fun a b => a.trans b fun x o e n => ⟨n, fun hx => by rw [List.mem_singleton.mp hx, nf] at e; cases e⟩
  have M3 : Mv ad.ws s s3 := (Mv.of_keeps k2).tr mv3
  have M5 : Mv ad.ws s { s3 with heap := h5 } := mS M3 m5
  have sk5 : Stk A.in1.in1 B l h5 := ⟨sk.fr, M5.frames sk.fun_⟩
  obtain ⟨od5, I5, _⟩ := O5.ix.at
  obtain ⟨mm5, Fr5⟩ := O5.fr
  refine wpAny_bind (owit_next (s := { s3 with heap := h5 }) Fr5 O5.found.frag I5 knx fnx ?_)
  refine wpAny_mono (by rw [← nx_a]; exact next_ok (s := { s3 with heap := h5 }) hl hc (c1.mono (by lia)) sk5 O5) (fun u s6 h6 => ?_) fun e s6 h6 => ?_
  · obtain ⟨t, qd, hm, du, O6, m6⟩ := h6
    have hS6 : s6.heap.get? S = some { cls := .type "list", dict := none, data := .seq #[] 2, slots := #[] } := m6.keep S _ nS hS5
    have M6 : Mv ad.ws s s6 := M5.tr m6
    show wpAny _ _ (updateSeq S (·.push u) >>= fun _ => again (.builtin "list.extend.loop" ⟨[.ref S, .ref ad.x, .none], []⟩)) _ _ _
    refine wpAny_bind (wpAny_updateSeq (hz := by seq_fits) hS6 rfl ?_)
    have hS7 : (s6.heap.update S (Obj.mapSeq (·.push u))).get? S = some { cls := .type "list", dict := none, data := .seq #[u] 3, slots := #[] } := Heap.get?_update_self (Obj.mapSeq (·.push u)) hS6 rfl
    have oth7 : ∀ b o, b ≠ S → s6.heap.get? b = some o → (s6.heap.update S (Obj.mapSeq (·.push u))).get? b = some o := fun b o hb e => (Heap.get?_update_other _ _ (Ne.symm hb)).trans e
    generalize hh7 : s6.heap.update S (Obj.mapSeq (·.push u)) = h7 at *
    have m7 : Mv [S] s6 { s6 with heap := h7 } := mv_list (xs := #[]) (n := 0) hS6 hS7 (fun vs z => by cases z) oth7
    have O7 : Obs w B ad (lexA .none (.str "" 0)) (some (sAt ⟨cs.toArray⟩ cs.length)) h7 := O6.listAt hS6 rfl bnS nS m7
    have M7 : Mv ad.ws s { s6 with heap := h7 } := mS M6 m7
    have sk7 : Stk A.in1.in1 B l h7 := ⟨sk.fr, M7.frames sk.fun_⟩
    obtain ⟨od7, I7, _⟩ := O7.ix.at
    obtain ⟨mm7, Fr7⟩ := O7.fr
    refine wpAny_pure ⟨plainId_quiet F.plain_extend_loop _, codeAny_builtin F.entry_extend_loop ?_⟩
    rw [Around.under_plainId F.plain_extend_loop _]
    show wpAny _ _ (pyNext (.ref ad.x) >>= _) _ _ _
    refine wpAny_bind (owit_next (s := { s6 with heap := h7 }) Fr7 O7.found.frag I7 knx fnx ?_)
    refine wpAny_mono (by rw [← nx_a]; exact next_n (Q := fun _ _ => False) (s := { s6 with heap := h7 }) hl (c1.mono (by lia)) sk7 O7) (fun u s8 h8 => False.elim h8) fun e s8 h8 => ?_
    refine wpAny_isInstance (fly_type h8) sub_si ?_
    obtain ⟨ea, t8, vs8, _, hfl, _, _, _, mu⟩ := h8
    obtain ⟨sl, hS8⟩ := mu.keep S _ nS hS7 fun vs z => by cases z
    refine wpAny_pure ⟨rfl, hQ S u t qd s8 hm nf ⟨_, hS8, rfl, _, rfl⟩ du hfl.1 (M7.thenU (W' := []) mu)⟩
  · obtain ⟨hm, hx⟩ := h6
    refine wpAny_isInstance (fly_type hx) sub_ve ?_
    obtain ⟨ea, t6, vs6, he, hfl, ht, hb, hd, mu⟩ := hx
    exact hE e s6 hm ⟨ea, t6, vs6, he, hfl, ht, hb, hd, M5.thenU (W' := []) mu⟩
end
end Mine
end
/- S26 -/
section
open PySem PySem.W PyProof.Rows PySem.Calls Builtin
set_option Elab.async false
set_option linter.unusedVariables false
set_option linter.unusedSimpArgs false
namespace Mine
set_option maxRecDepth 100000
theorem pk1 (w : World) (S : Setting) : peek (kFrag w) S (Bind.madeBy (.ref 587)) = some none := by kernel_rfl
theorem pk2 (w : World) (S : Setting) : peek (kFrag w) S (Bind.madeHere "object.__new__" (.ref 587)) = some () := by kernel_rfl
theorem pk3 (w : World) : subIn (kFrag w) (.ref 587) (.ref 587) = some true := by kernel_rfl
theorem pk4 (w : World) : findCls (kFrag w) (.ref 587) (.type "type") "__new__" = some (.get (.builtin "staticmethod.__get__") (.ref 84) .none (.ref 587)) := by kernel_rfl
theorem pk5 (w : World) : recIn (kFrag w) 84 "staticmethod" = some [.ref 80] := by kernel_rfl
theorem pk6 (w : World) : findCls (kFrag w) (.type "object") (.type "type") "__new__" = some (.val (.builtin "object.__new__")) := by kernel_rfl
theorem pk7 (w : World) : findIn (kFrag w) (.ref 587) "__init__" = some (some (.ref 357)) ∧ typeIn (kFrag w) (.ref 357) = some (.type "function") := ⟨by kernel_rfl, by kernel_rfl⟩
theorem pk8 (w : World) : specialIn (kFrag w) (.ref 587) "__call__" = some (some (.builtin "type.__call__")) ∧ instIn (kFrag w) (.ref 587) (.type "type") = some true := ⟨by kernel_rfl, by kernel_rfl⟩
theorem pk9 (w : World) : keepIn (kFrag w) (.ref 587) = true ∧ keepIn (kFrag w) (.ref 722) = true ∧ makesIn (kFrag w) 722 = true := ⟨by kernel_rfl, by kernel_rfl, by kernel_rfl⟩
theorem pk10 (w : World) : findIn (kFrag w) (.ref 722) "__init__" = some (some (.ref 646)) ∧ typeIn (kFrag w) (.ref 646) = some (.type "function") := ⟨by kernel_rfl, by kernel_rfl⟩
theorem bind_new (c v : Value) : bindArgs (mfd (mAt 0)) ⟨[c, v], []⟩ = (do let t ← newTuple [v]; let d ← alloc { cls := .type "dict", data := .dict #[] }; pure [(Str.ofString "cls", c), (Str.ofString "args", t), (Str.ofString "kwargs", .ref d)]) := by kernel_rfl
theorem hnd : handedIn (.builtin "object.__new__") = true := by decide +kernel
end Mine
end
/- S27 -/
section
open PySem PySem.W PyProof.Rows PySem.Calls Builtin
set_option Elab.async false
set_option linter.unusedVariables false
set_option linter.unusedSimpArgs false
namespace Mine
set_option maxRecDepth 100000
theorem newBody_shape : ∃ p1 p2 p3 p4 p5 p6 p7 bd p8 p9 ap p10 cp p11, (mFn (mAt 0)).body = [.If (.BoolOp .And [.Compare (.Name "cls" p1) [.IsNot] [.Name "BytesIO" p2] p3, .Compare (.Name "cls" p4) [.IsNot] [.Name "StringIO" p5] p6] p7) bd [] p8,
    .Return (some (.Call (.Attribute (.Name "object" p9) "__new__" ap) [.Name "cls" p10] [] cp)) p11] ∧ (ap.endLine == cp.line) = true :=
  ⟨_, _, _, _, _, _, _, _, _, _, _, _, _, _, rfl, rfl⟩
theorem wf0 : wfOB (mFn (mAt 0)) = true := by decide +kernel
theorem body0 : (mfd (mAt 0)).body = .stmts (mFn (mAt 0)).body := by kernel_rfl
theorem names0 : (mfd (mAt 0)).scope.names.lookup (Str.ofString "cls") = some .local ∧ (mfd (mAt 0)).scope.names.lookup (Str.ofString "args") = some .local ∧ (mfd (mAt 0)).scope.names.lookup (Str.ofString "kwargs") = some .local ∧
    (mfd (mAt 0)).scope.names.lookup (Str.ofString "BytesIO") = some .globalImplicit ∧ (mfd (mAt 0)).scope.names.lookup (Str.ofString "StringIO") = some .globalImplicit ∧ (mfd (mAt 0)).scope.names.lookup (Str.ofString "object") = some .globalImplicit := ⟨by kernel_rfl, by kernel_rfl, by kernel_rfl, by kernel_rfl, by kernel_rfl, by kernel_rfl⟩
theorem a0_ : (mAt 0).a = 80 := by kernel_rfl
theorem cls_obj {K : Frag} {C : Addr} {cd : ClassData} (h : clsIn K C = some cd) : ∃ oc od sl, K.lookup C = some ⟨oc, od, .cls cd, sl⟩ := by
  unfold clsIn at h
  split at h
  · rename_i ho; cases h; exact ⟨_, _, _, ho⟩
  · cases h
theorem k587 (w : World) : (clsIn (kFrag w) 587).any (fun cd => !cd.abstract && !cd.hasDel && !cd.mro.isEmpty && cd.hasDict) = true ∧ ((kFrag w).lookup 587).any (fun o => o.cls == .type "type") = true ∧ ((kFrag w).lookup 340).isSome = true := ⟨by kernel_rfl, by kernel_rfl, by kernel_rfl⟩
section
variable {prog : Program} {w : World} {B : Heap} {ad : Ad}
/-- object.__new__ of StringIO -/
theorem obj_new {A : Around} {s : Shared} {Q E : Value → Shared → Prop} (X : (kFrag w).In s.heap)
    (h : Q (.ref (s.heap.objs.size + 1)) { s with heap := (s.heap.push emptyDict).push (instObj 587 s.heap.objs.size) }) : wpAny (model prog w) A (call (.builtin "object.__new__") [.ref 587]) Q E s := by
  obtain ⟨cd, hcd, hb⟩ := any_some (k587 w).1
  simp only [Bool.and_eq_true, Bool.not_eq_true'] at hb
  obtain ⟨⟨⟨e1, e2⟩, e4⟩, e5⟩ := hb
  obtain ⟨oc, od, sl, hl⟩ := cls_obj hcd
  have F := PySem.F.objNew
  have hC := X _ _ hl
  obtain ⟨hh, g, d, t, os⟩ := s
  have self : Looks (model prog w) hh (isSubtype (.ref 587) (.ref 587)) true := looks_subIn X (pk3 w)
  have made : Looks (model prog w) hh (Bind.madeHere "object.__new__" (.ref 587)) () := Looks.of_peek X (pk2 w _)
  have top : Looks (model prog w) hh (isSubtype (.ref 587) (.type "object")) true := looks_subIn X (by kernel_rfl)
  dsimp only at hC X
  refine wpAny_call (codeAny_call_builtin_code (Code.quiet_builtin _ F.quiet) ?_)
  simp only [checkBuiltinCall, F.kind, F.split, F.row]
  have args : Bind.checkArgs "object.__new__" ⟨.hand, "object.__new__", "__new__", .cls, []⟩ ⟨.ref 587 :: [], []⟩ = pure () := by kernel_rfl
  rw [args]
  have base : Looks (model prog w) hh (Bind.staticBase (.ref 587)) (.type "object") := Looks.of_peek X (by kernel_rfl)
  have mby : Looks (model prog w) hh (Bind.madeBy (.type "object")) (some "object.__new__") := Looks.of_peek X (by kernel_rfl)
  repeat (first | simp only [bne_self_eq_false, Bool.false_eq_true, if_false] | lk)
  refine codeAny_builtin F.entry ?_
  unfold Builtin.«object.__new__»
  have fin : ∀ A', wpAny (model prog w) A' (do
      let d ← if typeHasDict (.ref 587) then some <$> alloc { cls := .type "dict", data := .dict #[] } else pure none
      ret (← newObj (.ref 587) .plain d)) (fun fin s' => match fin with | .done f => wants Q E (.ok f) s' | .again c' => c'.quiet = true ∧ codeAny (model prog w) A c' (wants Q E) s') (fun e s' => wants Q E (.error e) s') ⟨hh, g, d, t, os⟩ := by
    intro A'
    show wpAny _ _ ((alloc emptyDict >>= fun x => pure (some x)) >>= _) _ _ _
    refine wpAny_bind (wpAny_bind (wpAny_alloc (wpAny_pure (wpAny_bind ?_))))
    show wpAny _ _ (newObjAsIs _ _ _) _ _ _
    unfold newObjAsIs classHasDel
    refine wpAny_bind (wpAny_alloc (wpAny_bind (wpAny_bind (wpAny_load (Heap.get?_push_of_some _ (Heap.get?_push_of_some _ hC)) (wpAny_pure ?_)))))
    rw [e2]
    refine wpAny_pure (wpAny_pure ?_)
    show Q _ _
    rw [Heap.size_push]
    exact h
  repeat (first | simp only [e1, Bool.false_eq_true, if_false] | exact fin _ | lk)

theorem ty_object : typeOf (.type "object") = pure (.type "type") := by kernel_rfl
theorem stub_object : Manifest.isStub "object" = false := by decide +kernel
theorem blt_obj {w : World} {B : Heap} (Fd : Found w B) : ∃ mg mb, B.Ns mainGlobals mg ∧ B.Ns builtinsNs mb ∧ (mg "object" = none ∧ mb "object" = some (.type "object")) ∧ mg "BytesIO" = some (.ref 340) ∧ mg "StringIO" = some (.ref 587) ∧ (mg "isinstance" = none ∧ mb "isinstance" = some (.builtin "isinstance")) ∧ (mg "str" = none ∧ mb "str" = some (.type "str")) ∧
    (mg "list" = none ∧ mb "list" = some (.type "list")) ∧ mg "shlex" = some (.ref 722) ∧ mg "deque" = some (.type "collections.deque") := by
  obtain ⟨m, mb, n1, n2, n3, n4, n5, n6⟩ := Fd.names
  have hb : ∀ x v, bltNames.lookup x = some v → m x = none ∧ mb x = some v := fun x v h => n4 (x, v) (blt_mem h)
  have hc : ∀ x v, clsNames.lookup x = some v → m x = some v := fun x v h => n6 (x, v) (cls_mem h)
  exact ⟨m, mb, n1, n2, hb _ _ (by kernel_rfl), hc _ _ (by kernel_rfl), hc _ _ (by kernel_rfl), hb _ _ (by kernel_rfl), hb _ _ (by kernel_rfl), hb _ _ (by kernel_rfl), hc _ _ (by kernel_rfl), hc _ _ (by kernel_rfl)⟩

theorem meth_new {A : Around} {s : Shared} {a : Attrs} {b : Option Attrs} {Q : Value × List Value → Shared → Prop} {E : Value → Shared → Prop} (O : Obs w B ad a b s.heap) (pl : Sem Bool) (h : Q (.builtin "object.__new__", []) { s with toks := s.toks + 1 }) :
    wpAny (model prog w) A (getMethod (.type "object") (Str.ofString "__new__") pl) Q E s := by
  obtain ⟨mf, Frf⟩ := O.fr
  exact method_type (K := kFrag w) (T := "object") (name := Str.ofString "__new__") Frf O.found.frag ty_object stub_object (pk6 w) hnd h
theorem new_body {A : Around} {s : Shared} {env : Env} {L : Addr} {m : Str → Option Value} {a : Attrs} {b : Option Attrs} {Q : Flow → Shared → Prop} {E : Value → Shared → Prop} (ei : EnvIs env (mfd (mAt 0)).scope L) (hn : s.heap.Ns L m) (hm : m (Str.ofString "cls") = some (.ref 587)) (O : Obs w B ad a b s.heap)
    (h : Q (.ret (.ref (s.heap.objs.size + 1))) { s with heap := (s.heap.push emptyDict).push (instObj 587 s.heap.objs.size), toks := s.toks + 1 }) :
    wpAny (model prog w) A (execs (mFn (mAt 0)).body env) Q E s := by
  obtain ⟨p1, p2, p3, p4, p5, p6, p7, bd, p8, p9, ap, p10, cp, p11, hb, hl⟩ := newBody_shape
  rw [hb]
  have nm := names0
  obtain ⟨mg, mb, hg, hbn, hobj, hby, hst, _⟩ := blt_obj O.found
  have st' := O.stays
  have X' := O.frag
  have cls : ∀ (pos : Pos) (tk : Nat) (E' : Value → Shared → Prop) (Q' : Value → Shared → Prop), Q' (.ref 587) { s with toks := tk } → wpAny (model prog w) A (eval (.Name "cls" pos) env) Q' E' { s with toks := tk } := by
    intro pos tk E' Q' hq
    refine wpAny_Name (wpAny_loadName_local (m := m) ?_ ?_ ?_ hm hq) (by decide +kernel)
    · rw [ei.scp]; exact ei.kind
    · show env.scope.names.lookup _ = _; rw [ei.scp]; exact nm.1
    · rw [ei.loc]; exact hn
  obtain ⟨o5, ho5, hc5⟩ := any_some (k587 w).2.1
  obtain ⟨o3, ho3⟩ := Option.isSome_iff_exists.mp (k587 w).2.2
  have nt : o5.cls ≠ .type "tuple" := by rw [beq_iff_eq.mp hc5]; decide
  have t1 : wpAny (model prog w) A (isTrue (.Compare (.Name "cls" p1) [.IsNot] [.Name "BytesIO" p2] p3) env (eval (.Compare (.Name "cls" p1) [.IsNot] [.Name "BytesIO" p2] p3) env)) (fun c s' => c = true ∧ s' = s) E s :=
    wpAny_isTrue_Compare1 (cls p1 s.toks _ _ (nameG_ok nm.2.2.2.1 (by decide +kernel) hg hbn (.inl hby) ei st' (wpAny_isNot_ref_other (by decide) (X' _ _ ho5) (X' _ _ ho3) nt (wpAny_truthy_bool ⟨rfl, rfl⟩)))) rfl
  have t2 : wpAny (model prog w) A (isTrue (.Compare (.Name "cls" p4) [.IsNot] [.Name "StringIO" p5] p6) env (eval (.Compare (.Name "cls" p4) [.IsNot] [.Name "StringIO" p5] p6) env)) (fun c s' => c = false ∧ s' = s) E s :=
    wpAny_isTrue_Compare1 (cls p4 s.toks _ _ (nameG_ok nm.2.2.2.2.1 (by decide +kernel) hg hbn (.inl hst) ei st' (wpAny_isNot_ref_self (wpAny_truthy_bool ⟨rfl, rfl⟩)))) rfl
  have ret : wpAny (model prog w) A (eval (.Call (.Attribute (.Name "object" p9) "__new__" ap) [.Name "cls" p10] [] cp) env) (fun v s' => Q (.ret v) s') E s := by
    refine MethodCallG rfl rfl (by simp) hl (nameG_ok nm.2.2.2.2.2 (by decide +kernel) hg hbn (.inr hobj) ei st' fun pl => ?_)
    refine meth_new O pl ?_
    refine Calls.callWith_builtin rfl (Calls.evalArgs_plain (Calls.spliced_cons (cls p10 (s.toks + 1) _ _ (Calls.spliced_nil ?_))))
    exact obj_new (s := { s with toks := s.toks + 1 }) X' h
  refine wpAny_execs_cons (wpAny_If (isTrue_and (wpAny_mono t1 (fun c s' hc => ?_) fun _ _ z => z)))
  obtain ⟨rfl, rfl⟩ := hc
  refine isTrue_and (wpAny_mono t2 (fun c s' hc => ?_) fun _ _ z => z)
  obtain ⟨rfl, rfl⟩ := hc
  exact wpAny_execs_nil (wpAny_execs_cons (wpAny_Return_some ret))
theorem new_fn {A : Around} {s : Shared} {a : Attrs} {b : Option Attrs} {v : Value} {Q E : Value → Shared → Prop} (c : Cx A 20) (O : Obs w B ad a b s.heap)
    (h : ∀ s' y dy, Keeps s s' → s.heap.get? y = none → s.heap.get? dy = none → y ≠ dy → s'.heap.get? y = some (instObj 587 dy) → s'.heap.get? dy = some emptyDict → Q (.ref y) s') :
    wpAny (model prog w) A (call (.ref 80) [.ref 587, v]) Q E s := by
  have wf := wf0
  simp only [wfOB, Bool.and_eq_true, Bool.not_eq_true', beq_iff_eq] at wf
  obtain ⟨⟨⟨⟨⟨⟨⟨_, h2⟩, h3⟩, h4⟩, h5⟩, h6⟩, h7⟩, h8⟩ := wf
  have Fa := O.found.fnAt (i := 0) (by decide) (mcode 0 (by decide))
  obtain ⟨ob, ho, hd, _⟩ := Fa.obj
  rw [show (mFn (mAt 0)).a = 80 from a0_] at ho
  refine wpAny_call (codeAny_call_function (fd := mfd (mAt 0)) (by have := c.depth; omega) (O.stays _ _ ho) hd h4 h5 body0 (Fa.code.keeps O.stays) ?_)
  rw [bind_new]
  refine wpAny_bind (wpAny_newTuple (wpAny_bind (wpAny_alloc (wpAny_pure ?_))) (by rw [sizeLine_eq]; simp))
  have nm := names0
  have kp1 : ∀ b o, s.heap.get? b = some o → ((s.heap.push { cls := .type "tuple", data := .seq [v].toArray }).push { cls := .type "dict", data := .dict #[] }).get? b = some o := fun b o e => Heap.get?_push_of_some _ (Heap.get?_push_of_some _ e)
  generalize hh1 : (s.heap.push { cls := .type "tuple", data := .seq [v].toArray }).push { cls := .type "dict", data := .dict #[] } = h1 at *
  refine wpAny_newFunctionEnv (s := { s with heap := h1 }) (fun x hx => by simpa using List.all_eq_true.mp h2 x hx) (fun x hx => ?_) (fun h' hn hsb => ⟨(O.lim.keeps fun b o e => kp1 b o (O.stays b o e)).fresh _ hsb, codeAny_func ?_⟩) h6
  · simp only [List.mem_cons, List.not_mem_nil, or_false] at hx
    rcases hx with rfl | rfl | rfl
    · exact nm.1
    · exact nm.2.1
    · exact nm.2.2.1
  have kp2 : ∀ b o, s.heap.get? b = some o → h'.get? b = some o := fun b o e => hsb.extBut b o (Nat.ne_of_lt (Heap.lt_size (kp1 b o e))) (Heap.get?_push_of_some _ (kp1 b o e))
  have ei : EnvIs (newEnv (mfd (mAt 0)).scope h1.objs.size (mfd (mAt 0)).globals (mfd (mAt 0)).closure ((mfd (mAt 0)).qualname ++ ".<locals>.") (some 80) (mfd (mAt 0)).code none (mfd (mAt 0)).builtins) (mfd (mAt 0)).scope h1.objs.size := ⟨rfl, rfl, h7, h8, h6⟩
  have hn' : h'.Ns h1.objs.size (fun x => ([(Str.ofString "cls", Value.ref 587), (Str.ofString "args", .ref s.heap.objs.size), (Str.ofString "kwargs", .ref (s.heap.push { cls := .type "tuple", data := .seq [v].toArray }).objs.size)] : List (Str × Value)).reverse.lookup x) := hn
  have kp3 : ∀ b o, h'.get? b = some o → ((h'.push emptyDict).push (instObj 587 h'.objs.size)).get? b = some o := fun b o e => Heap.get?_push_of_some _ (Heap.get?_push_of_some _ e)
  have none1 : ∀ x, h'.objs.size ≤ x → s.heap.get? x = none := fun x hx => by
    cases e : s.heap.get? x with
    | none => rfl
    | some o => exact absurd (Heap.lt_size (kp2 x o e)) (Nat.not_lt.mpr hx)
  refine new_body (s := { s with heap := h', toks := s.toks + _ }) ei hn' rfl (O.keeps kp2) (h _ _ h'.objs.size ⟨_, _, rfl, fun b o e => kp3 b o (kp2 b o e)⟩ (none1 _ (Nat.le_succ _)) (none1 _ (Nat.le_refl _)) (Nat.succ_ne_self _) ?_ ?_)
  · show ((h'.push emptyDict).push (instObj 587 h'.objs.size)).get? (h'.objs.size + 1) = _
    heap_get
  · show ((h'.push emptyDict).push (instObj 587 h'.objs.size)).get? h'.objs.size = _
    heap_get
end
end Mine
end
/- S28 -/
section
open PySem PySem.W PyProof.Rows PySem.Calls Builtin
set_option Elab.async false
set_option linter.unusedVariables false
set_option linter.unusedSimpArgs false
namespace Mine
set_option maxRecDepth 100000
noncomputable def siF : Fn := mFn (mAt 1)
noncomputable def siSc : Scope := siF.fd.scope
theorem si_run (line : Str) (a : Attrs) : ∃ l, oxs otab siSc 60 siF.body ⟨[(Str.ofString "newline", .str "\n" 1), (Str.ofString "initial_value", .str line 16), (Str.ofString "self", .strm)], a, some []⟩ = some (.next ⟨l, a, some (sAt line 0)⟩) := ⟨[(Str.ofString "newline", .str "\n" 1), (Str.ofString "initial_value", .str line 16), (Str.ofString "self", .strm)], by kernel_rfl⟩
theorem si_bind (w : World) (S : Setting) (y v : Value) : peek (kFrag w) S (bindArgs (mfd (mAt 1)) ⟨[y, v], []⟩) = some [(Str.ofString "self", y), (Str.ofString "initial_value", v), (Str.ofString "newline", .str "\n" 671)] := by kernel_rfl
theorem si_wf : wfOB siF = true ∧ (match siF.fd.body with | .stmts b => b | _ => []) = siF.body ∧ siF.ps = [Str.ofString "self", Str.ofString "initial_value", Str.ofString "newline"] := ⟨by decide +kernel, by kernel_rfl, by kernel_rfl⟩
theorem si_a : siF.a = 357 := by kernel_rfl
noncomputable def inF : Fn := mFn (mAt 5)
noncomputable def inSc : Scope := inF.fd.scope
theorem in_bind (w : World) (S : Setting) (x v p : Value) : peek (kFrag w) S (bindArgs (mfd (mAt 5)) ⟨[x, v], [(Str.ofString "posix", p)]⟩) = some [(Str.ofString "self", x), (Str.ofString "instream", v), (Str.ofString "infile", .none), (Str.ofString "posix", p), (Str.ofString "punctuation_chars", .bool false)] := by kernel_rfl
theorem in_wf : wfOB inF = true ∧ (match inF.fd.body with | .stmts b => b | _ => []) = inF.body ∧ inF.ps = [Str.ofString "self", Str.ofString "instream", Str.ofString "infile", Str.ofString "posix", Str.ofString "punctuation_chars"] := ⟨by decide +kernel, by kernel_rfl, by kernel_rfl⟩
theorem in_a : inF.a = 646 := by kernel_rfl
end Mine
end
/- S29 -/
section
open PySem PySem.W PyProof.Rows PySem.Calls Builtin
set_option Elab.async false
set_option linter.unusedVariables false
set_option linter.unusedSimpArgs false
namespace Mine
set_option maxRecDepth 100000
structure WfP (F : Fn) : Prop where
  body : F.fd.body = .stmts F.body
  cell : ∀ x ∈ F.fd.scope.names, x.2 ≠ .cell
  loc : ∀ p ∈ F.ps, F.fd.scope.names.lookup p = some .local
  co : F.fd.scope.isCoroutine = false
  gen : F.fd.scope.isGenerator = false
  kind : F.fd.scope.kind = .function
  gl : F.fd.globals = mainGlobals
  bl : F.fd.builtins = builtinsNs
theorem wfP_of {F : Fn} (hb : (match F.fd.body with | .stmts b => b | _ => []) = F.body) (h : wfOB F = true) : WfP F := by
  simp only [wfOB, Bool.and_eq_true, Bool.not_eq_true', beq_iff_eq] at h
  obtain ⟨⟨⟨⟨⟨⟨⟨h1, h2⟩, h3⟩, h4⟩, h5⟩, h6⟩, h7⟩, h8⟩ := h
  refine ⟨?_, fun x hx => by simpa using List.all_eq_true.mp h2 x hx, fun p hp => by simpa using List.all_eq_true.mp h3 p hp, h4, h5, h6, h7, h8⟩
  split at h1
  · rename_i b hb'; rw [hb'] at hb ⊢; exact congrArg _ hb
  · cases h1
section
variable {prog : Program} {w : World} {B : Heap} {ad : Ad}
theorem call_handA {F : Fn} (Fo : WfP F) (Fa : FnAt B F) {n : Nat} {A : Around} {l : List Env} {s : Shared} {args : Args} {binds : List (Str × Value)} {lx a : Attrs} {b : Option Attrs} {R : Result → Shared → Prop} (c : Cx A (n + 1)) (sk : Stk A B l s.heap) (O : Obs w B ad a b s.heap)
    (hbind : BindsTo s F.fd args binds) (hd : ∀ y v, lx.lookup y = some v → ∃ u, binds.reverse.lookup y = some u ∧ DenO ad u v) (hloc : ∀ p ∈ binds, F.fd.scope.names.lookup p.1 = some .local)
    (h : ∀ env L s₁, EnvIs env F.fd.scope L → env.frame = some L → Stk (A.deeper env) B (env :: l) s₁.heap → FrO ad B L lx s₁.heap → Obs w B ad a b s₁.heap → Keeps s s₁ → s.heap.get? L = none → Cx (A.deeper env) n →
      wpAny (model prog w) (A.deeper env) (execs F.body env) (fun fl s' => R (.ok (.ret (match fl with | .ret v => v | _ => .none))) s') (fun e s' => wpAny (model prog w) (A.deeper env) (leaving env e) (fun _ s'' => R (.error e) s'') (fun e' s'' => R (.error e') s'') s') s₁) :
    codeAny (model prog w) A (.call (.ref F.a) args) R s := by
  obtain ⟨o, ho, hdd, _⟩ := Fa.obj
  have fresh : s.heap.get? s.heap.objs.size = none := size_none _
  refine codeAny_call_def (by have := c.depth; lia) (O.stays _ _ ho) hdd (O.lim.keeps O.stays) (Fa.code.keeps O.stays) Fo.body hbind Fo.cell hloc (fun h₀ hn hk => ?_) Fo.co Fo.gen Fo.kind
  have ei : EnvIs (callEnv F.fd s.heap.objs.size F.a) F.fd.scope s.heap.objs.size := ⟨rfl, rfl, Fo.gl, Fo.bl, Fo.kind⟩
  have ef := callEnv_frame F.fd s.heap.objs.size F.a Fo.kind
  have kp : Keeps s { s with heap := h₀, toks := s.toks + binds.length } := ⟨h₀, _, rfl, hk⟩
  have bn : B.get? s.heap.objs.size = none := by
    cases e : B.get? s.heap.objs.size with
    | none => rfl
    | some o => rw [O.stays _ _ e] at fresh; cases fresh
  refine h _ s.heap.objs.size _ ei ef ⟨Around.frames_deeper sk.fr, ?_⟩ ⟨⟨_, hn, hd⟩, bn, O.fresh⟩ (O.keeps hk) kp fresh (c.deeper _)
  exact .cons (by rw [ei.scp, ei.kind]; decide) ef hn bn ((Mv.of_keeps (W := []) kp).frames sk.fun_)

theorem den_ad {ad ad' : Ad} (hx : ad.x = ad'.x) (hq : ∀ d, ad.dq d → ad'.dq d) {u : Value} {v : OV} (hv : v ≠ .strm) (d : DenO ad u v) : DenO ad' u v := by
  cases d with
  | none => exact .none
  | bool b => exact .bool b
  | int i t => exact .int i t
  | str h => exact .str h
  | typ n => exact .typ n
  | ref a => exact .ref a
  | lex => rw [hx]; exact .lex
  | strm => exact absurd rfl hv
  | dq h => exact .dq (hq _ h)

noncomputable def adA (x dx : Addr) : Ad := ⟨x, dx, x, dx, fun _ => False⟩
noncomputable def adB (x dx y dy : Addr) : Ad := ⟨x, dx, y, dy, fun _ => False⟩
theorem inst_new {h : Heap} {ad : Ad} {y C dy : Addr} (h1 : h.get? y = some (instObj C dy)) (h2 : h.get? dy = some emptyDict) : InstR h ad y C dy [] :=
  ⟨h1, fun _ => none, .of_empty ⟨_, #[], _, h2, rfl, fun e he => absurd he (by simp), fun _ => rfl⟩, (fun n v e => by cases e), Within.nil⟩

theorem under_cx {A : Around} {n : Nat} {C : Addr} {rest : List Value} {kw : List (Str × Value)} (c : Cx A (n + 1)) : Cx (A.under (.builtin "type.__call__" ⟨.ref C :: rest, kw⟩)) n :=
  ⟨by have := c.depth; show A.depth + 1 + n < _; lia, by have := c.units; show A.units + 1 + _ + _ < _; lia, c.hand⟩

theorem statics_no {h : Heap} (Fd : Found w B) (st : B.StaysIn h) {C : Addr} : Looks (model prog w) h (opaqueClassAbove (.ref C)) none := by
  obtain ⟨m, hm, e⟩ := Fd.statics
  have L1 : Looks (model prog w) h (nsGet cStatics (Str.ofString "thirdparty.any")) none := fun A Q E s k q => wpAny_nsGet (m := m) (hm.keeps fun b o x => k b o (st b o x)) (by rw [e]; exact q)
  exact Looks.andThen (a := false) (L1.andThen .now) (by show Looks _ h (if (!false) = true then pure none else _) none; rw [if_pos (show (!false) = true from rfl)]; exact .now)

/-- StringIO(line) -/
theorem call_strm {A : Around} {l : List Env} {s : Shared} {x dx : Addr} {line : Str} {tk : Tok} {Q E : Value → Shared → Prop} (c : Cx A 80) (sk : Stk A B l s.heap) (O : Obs w B (adA x dx) [] none s.heap) (hlen : line.length ≤ 16)
    (h : ∀ s' y dy, Mv [dx] s s' → s.heap.get? y = none → s.heap.get? dy = none → Obs w B (adB x dx y dy) [] (some (sAt line 0)) s'.heap → Q (.ref y) s') : wpAny (model prog w) A (call (.ref 587) [.str line tk]) Q E s := by
  obtain ⟨cd, hcd, hb⟩ := any_some (k587 w).1
  simp only [Bool.and_eq_true, Bool.not_eq_true'] at hb
  obtain ⟨⟨⟨e1, e2⟩, e4⟩, e5⟩ := hb
  obtain ⟨oc, od, sl, hl⟩ := cls_obj hcd
  have X := O.frag
  have hC := X _ _ hl
  have cl : Looks (model prog w) s.heap (specialOf (.ref 587) "__call__") (some (.builtin "type.__call__")) := looks_specialIn X (pk8 w).1
  have typ : Looks (model prog w) s.heap (isInstance (.ref 587) (.type "type")) true := looks_instIn X (pk8 w).2
  have hm : Looks (model prog w) s.heap (mroOf (.ref 587)) cd.mro := ((Looks.ld (part := none) hC).andThen .now).andThen .now
  have made : Looks (model prog w) s.heap (Bind.madeBy (.ref 587)) none := Looks.of_peek X (pk1 w _)
  refine wpAny_call (codeAny_of_tree ?_)
  show wpAny _ _ (callAny (.ref 587) _) _ _ _
  refine nd_load hC ?_
  show wpAny _ _ (callAny.viaDunder (.ref 587) _) _ _ _
  unfold callAny.viaDunder
  refine wpAny_bind (cl.here ?_)
  dsimp only
  rw [tc_bind]
  refine wpAny_bind (wpAny_pure (wpAny_bind (wpAny_pure ?_)))
  refine wpAny_pure (a := Fin.again (.call (.builtin "type.__call__") ⟨.ref 587 :: [.str line tk], []⟩)) (And.intro rfl ?_)
  refine codeAny_call_builtin_at (Code.quiet_builtin _ (by decide +kernel)) entry_typeCall (check_slot tc_kind tc_split typ (tc_args _ _ _) ?_)
  unfold Builtin.«type.__call__»
  show wpAny _ _ (mroOf (Value.ref 587) >>= _) _ _ _
  refine wpAny_bind (hm.here ?_)
  rw [if_neg (by rw [e4]; decide)]
  show wpAny _ _ (Bind.madeBy (Value.ref 587) >>= _) _ _ _
  refine wpAny_bind (made.here ?_)
  show wpAny _ _ (getAttr (Value.ref 587) (Str.ofString "__new__") >>= _) _ _ _
  have c1 : Cx (A.under (.builtin "type.__call__" ⟨.ref 587 :: [.str line tk], []⟩)) 79 := under_cx c
  have sk1 : Stk (A.under (.builtin "type.__call__" ⟨.ref 587 :: [.str line tk], []⟩)) B l s.heap := ⟨sk.fr, sk.fun_⟩
  generalize hA : A.under (.builtin "type.__call__" ⟨.ref 587 :: [.str line tk], []⟩) = A1 at *
  have LT : Looks (model prog w) s.heap (typeOf (.ref 587)) (.type "type") := looks_typeIn X (by kernel_rfl)
  refine wpAny_bind (cls_open X (statics_no O.found O.stays) LT (show findIn (kFrag w) (.type "type") _ = _ from type_tga) (looks_hook X (r := none) (by rfl)) (by show subIn _ _ _ = _; rfl) (pk4 w) ?_)
  show wpAny _ _ (holding [Value.ref 84] (call (.builtin "staticmethod.__get__") [.ref 84, .none, .ref 587]) >>= fun v => ret v) _ _ _
  refine wpAny_bind (wpAny_holding (wpAny_call (sm_get (s := { s with toks := s.toks + 1 }) X (pk5 w) (wpAny_pure ?_))))
  show wpAny _ _ (handedOut (.ref 80)) _ _ _
  rw [handedOut_of (by rfl)]
  refine wpAny_pure ?_
  refine wpAny_bind (wpAny_holding (new_fn (s := { s with toks := s.toks + 1 }) (c1.mono (by lia)) O fun s2 y dy k2 ny ndy hne hy hdy => ?_))
  have k2' : Keeps s s2 := kp_trans (kp_tok _) k2
  have hyx : dx ≠ dy := fun e => by
    obtain ⟨m, ⟨o, es, ep, q, _⟩, _⟩ := O.ix.ns
    have q : s.heap.get? dx = some o := q
    have ndy : s.heap.get? dy = none := ndy
    rw [e, ndy] at q; cases q
  have O2 : Obs w B (adB x dx y dy) [] (some []) s2.heap := by
    have Ok := O.mv k2'
    refine ⟨⟨Ok.ix.obj, ?_⟩, fun l e => ?_, fun d hd => hd.elim, Ok.stays, O.newX, ?_, O.found, O.lim, (fun e => by cases e), O.up, O.na, fun l e n hn => ?_⟩
    · obtain ⟨m, hm, _, hw⟩ := Ok.ix.ns
      exact ⟨m, hm, (fun n v e => by cases e), hw⟩
    · cases e; exact ⟨inst_new hy hdy, hyx⟩
    · show B.get? dy = none
      cases e : B.get? dy with
      | none => rfl
      | some o => have := O.stays _ _ e; have ndy : s.heap.get? dy = none := ndy; rw [ndy] at this; cases this
    · cases e; cases hn
  have sk2 : Stk A1 B l s2.heap := sk1.mv (Mv.of_keeps (W := []) k2')
  obtain ⟨Iy, _⟩ := O2.iy [] rfl
  obtain ⟨ody, Ia, _⟩ := Iy.at
  have X2 := O2.frag
  have LI : Looks (model prog w) s2.heap (isInstance (.ref y) (.ref 587)) true := Looks.andThen (a := .ref 587) (show Looks (model prog w) s2.heap (typeOf (.ref y)) (.ref 587) from Ia.type) (looks_subIn X2 (pk3 w))
  refine wpAny_bind (LI.here ?_)
  show wpAny _ _ (holding [Value.ref y] (callSpecial? (.ref y) (Str.ofString "__init__") [.str line tk]) >>= _) _ _ _
  refine wpAny_bind (wpAny_holding (special_fn X2 Ia (pk7 w).1 (pk7 w).2 ?_))
  have Fo := wfP_of si_wf.2.1 si_wf.1
  have hps := si_wf.2.2
  rw [← si_a]
  refine wpAny_call (call_handA (ad := adB x dx y dy) (n := 78) (lx := [(Str.ofString "newline", .str "\n" 1), (Str.ofString "initial_value", .str line 16), (Str.ofString "self", .strm)]) Fo (O.found.fnAt (by decide) (mcode 1 (by decide))) c1 sk2 O2
    (bindsTo_of X2 fun S => si_bind w S (.ref y) (.str line tk)) (fun n v e => ?_) (fun p hp => Fo.loc p.1 ?_) fun env L s3 ei ef sk3 F3 O3 k3 fr3 c3 => ?_)
  · have z := zip_look (ad := adB x dx y dy) [Str.ofString "self", Str.ofString "initial_value", Str.ofString "newline"] [.ref y, .str line tk, .str "\n" 671] [.strm, .str line 16, .str "\n" 1] [] [] (.cons .strm (.cons (.str hlen) (.cons (.str (by decide +kernel)) .nil))) (fun y v e => by cases e) n v (by simpa using e)
    simpa using z
  · rw [hps]
    simp only [List.mem_cons, List.not_mem_nil, or_false] at hp ⊢
    rcases hp with rfl | rfl | rfl <;> simp
  · obtain ⟨lf, hrun⟩ := si_run line []
    have TO := tabO O.found
    refine wpAny_mono (((allO (prog := prog) (ad := adB x dx y dy) TO 60) 60 (Nat.le_refl _)).2.2.2 siSc siF.body _ _ hrun (A1.deeper env) env L l s3 (c3.mono (by lia)) ei ef sk3 F3 O3) (fun fl s4 h4 => ?_) fun _ _ z => z.elim
    cases fl <;> try exact h4.elim
    obtain ⟨_, O4, m4⟩ := h4
    show wpAny _ _ (if (Value.none != Value.none) = true then _ else _) _ _ _
    rw [if_neg (by decide)]
    refine wpAny_pure (h s4 y dy ?_ ny ndy O4)
    have k23 := kp_trans k2' k3
    refine (Mv.of_keeps (W := [dx]) k23).trans m4 fun z o e nz => ⟨nz, fun hz => ?_⟩
    rcases List.mem_cons.mp hz with rfl | hz
    · have := kp_heap k2' _ _ e; rw [fr3] at this; cases this
    · rcases List.mem_cons.mp hz with rfl | hz
      · exact nz (List.mem_singleton_self _)
      · rw [List.mem_singleton.mp hz] at e
        have ndy : s.heap.get? dy = none := ndy
        have e : s.heap.get? dy = some o := e
        rw [ndy] at e; cases e
end
end Mine
end
/- S30 -/
section
open PySem PySem.W PyProof.Rows PySem.Calls Builtin
set_option Elab.async false
set_option linter.unusedVariables false
set_option linter.unusedSimpArgs false
namespace Mine
set_option maxRecDepth 100000
noncomputable def inL (line : Str) : Attrs := [(Str.ofString "punctuation_chars", .bool false), (Str.ofString "posix", .bool true), (Str.ofString "infile", .none), (Str.ofString "instream", .str line 16), (Str.ofString "self", .lex)]
noncomputable def inL1 (line : Str) : Attrs := (Str.ofString "instream", .strm) :: inL line
noncomputable def at1 : Attrs := [(Str.ofString "instream", .strm), (Str.ofString "infile", .none), (Str.ofString "posix", .bool true), (Str.ofString "eof", .none), (Str.ofString "commenters", .str "#" 1), (Str.ofString "wordchars", .str "abcdfeghijklmnopqrstuvwxyzABCDEFGHIJKLMNOPQRSTUVWXYZ0123456789_ßàáâãäåæçèéêëìíîïðñòóôõöøùúûüýþÿÀÁÂÃÄÅÆÇÈÉÊËÌÍÎÏÐÑÒÓÔÕÖØÙÚÛÜÝÞ" 125),
  (Str.ofString "whitespace", .str " \t\r\n" 4), (Str.ofString "whitespace_split", .bool false), (Str.ofString "quotes", .str "'\"" 2), (Str.ofString "escape", .str "\\" 1), (Str.ofString "escapedquotes", .str "\"" 1), (Str.ofString "state", .str " " 1)]
noncomputable def at2 : Attrs := at1 ++ [(Str.ofString "pushback", .dq)]
noncomputable def at3 : Attrs := at2 ++ [(Str.ofString "lineno", .int 1), (Str.ofString "debug", .int 0), (Str.ofString "token", .str "" 0)]
noncomputable def at4 : Attrs := at3 ++ [(Str.ofString "filestack", .dq)]
noncomputable def at5 : Attrs := at4 ++ [(Str.ofString "source", .none), (Str.ofString "_punctuation_chars", .str "" 0)]
theorem in_1 (line : Str) (b : Option Attrs) : oxs otab inSc 60 ((inF.body.drop 1).take 12) ⟨inL1 line, [], b⟩ = some (.next ⟨inL1 line, at1, b⟩) := by kernel_rfl
theorem in_2 (line : Str) (b : Option Attrs) : oxs otab inSc 60 ((inF.body.drop 14).take 3) ⟨inL1 line, at2, b⟩ = some (.next ⟨inL1 line, at3, b⟩) := by kernel_rfl
theorem in_3 (line : Str) (b : Option Attrs) : oxs otab inSc 60 (inF.body.drop 18) ⟨inL1 line, at4, b⟩ = some (.next ⟨(Str.ofString "punctuation_chars", .str "" 0) :: inL1 line, at5, b⟩) := by kernel_rfl
noncomputable def inAt (i : Nat) : Stmt := inF.body.getD i (.Pass ⟨0, 0, 0, 0⟩)
theorem in_len : inF.body.length = 22 := by decide +kernel
theorem in_split : inF.body = inAt 0 :: ((inF.body.drop 1).take 12 ++ inAt 13 :: ((inF.body.drop 14).take 3 ++ inAt 17 :: (inF.body.drop 18 ++ []))) := by
  have hl := in_len
  have d0 : inF.body = inAt 0 :: inF.body.drop 1 := by
    conv => lhs; rw [← List.drop_zero (l := inF.body)]
    rw [List.drop_eq_getElem_cons (by lia)]
    simp [inAt, List.getD, List.getElem?_eq_getElem (show 0 < inF.body.length by lia)]
  have d1 : inF.body.drop 1 = (inF.body.drop 1).take 12 ++ inF.body.drop 13 := by
    rw [show inF.body.drop 13 = (inF.body.drop 1).drop 12 from by rw [List.drop_drop]]
    exact (List.take_append_drop _ _).symm
  have d2 : inF.body.drop 13 = inAt 13 :: inF.body.drop 14 := by
    rw [List.drop_eq_getElem_cons (by lia)]
    simp [inAt, List.getD, List.getElem?_eq_getElem (show 13 < inF.body.length by lia)]
  have d3 : inF.body.drop 14 = (inF.body.drop 14).take 3 ++ inF.body.drop 17 := by
    rw [show inF.body.drop 17 = (inF.body.drop 14).drop 3 from by rw [List.drop_drop]]
    exact (List.take_append_drop _ _).symm
  have d4 : inF.body.drop 17 = inAt 17 :: inF.body.drop 18 := by
    rw [List.drop_eq_getElem_cons (by lia)]
    simp [inAt, List.getD, List.getElem?_eq_getElem (show 17 < inF.body.length by lia)]
  rw [List.append_nil, ← d4, ← d3, ← d2, ← d1]
  exact d0
theorem dq_1 : ∃ p1 p2 p3 p4 p5, inAt 13 = .Assign [.Attribute (.Name "self" p1) (Str.ofString "pushback") p2] (.Call (.Name "deque" p3) [] [] p4) p5 := ⟨_, _, _, _, _, rfl⟩
theorem dq_2 : ∃ p1 p2 p3 p4 p5, inAt 17 = .Assign [.Attribute (.Name "self" p1) (Str.ofString "filestack") p2] (.Call (.Name "deque" p3) [] [] p4) p5 := ⟨_, _, _, _, _, rfl⟩
theorem stm_shape : ∃ p1 p2 p3 p4 p5 p6 p7 p8 p9 p10, inAt 0 = .If (.Call (.Name "isinstance" p1) [.Name "instream" p2, .Name "str" p3] [] p4) [.Assign [.Name "instream" p5] (.Call (.Name "StringIO" p6) [.Name "instream" p7] [] p8) p9] [] p10 := ⟨_, _, _, _, _, _, _, _, _, _, rfl⟩
theorem in_names : inSc.names.lookup (Str.ofString "self") = some .local ∧ inSc.names.lookup (Str.ofString "instream") = some .local ∧ inSc.names.lookup (Str.ofString "isinstance") = some .globalImplicit ∧ inSc.names.lookup (Str.ofString "str") = some .globalImplicit ∧
    inSc.names.lookup (Str.ofString "StringIO") = some .globalImplicit ∧ inSc.names.lookup (Str.ofString "deque") = some .globalImplicit := ⟨by kernel_rfl, by kernel_rfl, by kernel_rfl, by kernel_rfl, by kernel_rfl, by kernel_rfl⟩

section
variable {prog : Program} {w : World} {B : Heap}
theorem DenO.more {ad ad' : Ad} {u : Value} {v : OV} (hx : ad'.x = ad.x) (hy : ad'.y = ad.y) (hq : ∀ d, ad.dq d → ad'.dq d) (d : DenO ad u v) : DenO ad' u v := by
  cases d with
  | none => exact .none
  | bool b => exact .bool b
  | int i t => exact .int i t
  | str h => exact .str h
  | typ n => exact .typ n
  | ref a => exact .ref a
  | lex => rw [← hx]; exact .lex
  | strm => rw [← hy]; exact .strm
  | dq h => exact .dq (hq _ h)
noncomputable def Ad.add (ad : Ad) (d : Addr) : Ad := { ad with dq := fun z => ad.dq z ∨ z = d }
theorem InstR.add {h : Heap} {ad : Ad} {d : Addr} {x C dx : Addr} {a : Attrs} (I : InstR h ad x C dx a) : InstR h (ad.add d) x C dx a := by
  obtain ⟨m, hm, h1, h2⟩ := I.ns
  exact ⟨I.obj, m, hm, fun n v e => let ⟨u, a, b⟩ := h1 n v e; ⟨u, a, b.more (ad := ad) (ad' := ad.add d) rfl rfl fun _ z => .inl z⟩, h2⟩
theorem Obs.add {ad : Ad} {a : Attrs} {b : Option Attrs} {h : Heap} {d : Addr} (O : Obs w B ad a b h) (hd : IsDq h d) : Obs w B (ad.add d) a b h :=
  ⟨O.ix.add, fun l e => ⟨(O.iy l e).1.add, (O.iy l e).2⟩, fun z hz => hz.elim (O.dq z) fun e => by rw [e]; exact hd, O.stays, O.newX, O.newY, O.found, O.lim, O.nd, O.up, O.na, O.nb⟩
theorem FrO.add {ad : Ad} {L : Addr} {l : Attrs} {h : Heap} {d : Addr} (F : FrO ad B L l h) : FrO (ad.add d) B L l h := by
  obtain ⟨m, hm, hl⟩ := F.ns
  exact ⟨⟨m, hm, fun x v e => let ⟨u, a, b⟩ := hl x v e; ⟨u, a, b.more (ad := ad) (ad' := ad.add d) rfl rfl fun _ z => .inl z⟩⟩, F.new, F.out⟩

theorem dq_stmt {A : Around} {env : Env} {L : Addr} {s : Shared} {ad : Ad} {st : Stmt} {m : Str} {l a : Attrs} {b : Option Attrs} {Q : Flow → Shared → Prop} {E : Value → Shared → Prop} (hs : ∃ p1 p2 p3 p4 p5, st = .Assign [.Attribute (.Name "self" p1) m p2] (.Call (.Name "deque" p3) [] [] p4) p5) (ei : EnvIs env inSc L) (F : FrO ad B L l s.heap) (hself : l.lookup (Str.ofString "self") = some .lex) (O : Obs w B ad a b s.heap) (hm : lexAttrs.contains m = true) (hz : a.length ≤ 1000)
    (h : ∀ d s', FrO (ad.add d) B L l s'.heap → Obs w B (ad.add d) (putA m .dq a) b s'.heap → Mv ad.ws s s' → Q .next s') : wpAny (model prog w) A (exec st env) Q E s := by
  obtain ⟨p1, p2, p3, p4, p5, rfl⟩ := hs
  obtain ⟨mg, mb, hg, hbn, _, _, _, _, _, _, _, hdq⟩ := blt_obj O.found
  obtain ⟨n1, n2, n3, n4, n5, n6⟩ := in_names
  refine plainObj_wpAny_Assign_Attribute (Call_Name0 (nameG_ok n6 (by decide +kernel) hg hbn (.inl hdq) ei O.stays (callWith_type0 (env := env) (call_dq fun h' d hk hd => ?_)))) rfl
  have k : Keeps s { s with heap := h' } := ⟨h', _, rfl, hk⟩
  have F1 := (F.keeps k).add (d := d)
  have O1 := (O.mv k).add (d := d) hd
  refine wpAny_mono (nameL_ok (st := ⟨l, a, b⟩) n1 (by decide +kernel) hself ei F1) (fun ov s₂ h₂ => ?_) fun _ _ z => z
  obtain ⟨rfl, dv⟩ := h₂
  refine wpAny_mono (setO_ok (st := ⟨l, a, b⟩) (st' := ⟨l, putA m .dq a, b⟩) (v := .dq) (by show (if _ ∧ _ then _ else _) = _; rw [if_pos ⟨hm, hz⟩]) dv (.dq (.inr rfl)) O1) (fun _ s₃ h₃ => ?_) fun _ _ z => z
  obtain ⟨O2, mv2, _⟩ := h₃
  exact h d s₃ (F1.mv mv2) O2 ((Mv.of_keeps k).tr mv2)
end
end Mine
end
/- S31 -/
section
open PySem PySem.W PyProof.Rows PySem.Calls Builtin
set_option Elab.async false
set_option linter.unusedVariables false
set_option linter.unusedSimpArgs false
namespace Mine
set_option maxRecDepth 100000
section
variable {prog : Program} {w : World} {B : Heap}
theorem FrO.toB {x dx y dy L : Addr} {l : Attrs} {s s' : Shared} (F : FrO (adA x dx) B L l s.heap) (hv : ∀ n v, l.lookup n = some v → v ≠ .strm) (m : Mv [dx] s s') (ndy : s.heap.get? dy = none) : FrO (adB x dx y dy) B L l s'.heap := by
  obtain ⟨o, ho, es, ep, hd⟩ := F.here
  obtain ⟨mm, hm, hl⟩ := F.ns
  have nL : L ∉ [dx] := fun e => F.out (by rw [List.mem_singleton.mp e]; exact List.mem_cons_self ..)
  have k : ∀ o, s.heap.get? L = some o → s'.heap.get? L = some o := fun o e => m.keep L o nL e
  obtain ⟨o1, es1, ep1, e1, r1⟩ := hm
  refine ⟨⟨mm, ⟨o1, es1, ep1, k _ e1, r1⟩, fun n v e => ?_⟩, F.new, fun e => ?_⟩
  · obtain ⟨u, a, d⟩ := hl n v e
    exact ⟨u, a, den_ad (ad := adA x dx) (ad' := adB x dx y dy) rfl (fun _ z => z) (hv n v e) d⟩
  · rcases List.mem_cons.mp e with e | e
    · exact nL (by rw [e]; exact List.mem_singleton_self _)
    · have e := List.mem_singleton.mp e
      have e : L = dy := e
      rw [e, ndy] at ho; cases ho
theorem inL_vals (line : Str) : ∀ n v, (inL line).lookup n = some v → v ≠ .strm := by
  intro n v h
  simp only [inL, List.lookup] at h
  repeat' split at h
  all_goals first | (cases h; intro z; cases z) | cases h

theorem stm_ok {A : Around} {env : Env} {L : Addr} {outer : List Env} {s : Shared} {x dx : Addr} {line : Str} {Q : Flow → Shared → Prop} {E : Value → Shared → Prop} (c : Cx A 90) (ei : EnvIs env inSc L) (sk : Stk A B (env :: outer) s.heap) (F : FrO (adA x dx) B L (inL line) s.heap) (O : Obs w B (adA x dx) [] none s.heap) (hlen : line.length ≤ 16)
    (h : ∀ s' y dy, FrO (adB x dx y dy) B L (inL1 line) s'.heap → Obs w B (adB x dx y dy) [] (some (sAt line 0)) s'.heap → Mv (L :: [dx]) s s' → s.heap.get? dy = none → Q .next s') : wpAny (model prog w) A (exec (inAt 0) env) Q E s := by
  obtain ⟨p1, p2, p3, p4, p5, p6, p7, p8, p9, p10, hst⟩ := stm_shape
  rw [hst]
  obtain ⟨mg, mb, hg, hbn, _, _, hsio, hisi, hstr, _⟩ := blt_obj O.found
  obtain ⟨n1, n2, n3, n4, n5, n6⟩ := in_names
  have nm : ∀ {pos : Pos} {s₁ : Shared} {Q' E' : Value → Shared → Prop}, FrO (adA x dx) B L (inL line) s₁.heap → (∀ t, Q' (.str line t) s₁) → wpAny (model prog w) A (eval (.Name "instream" pos) env) Q' E' s₁ := fun F' hq =>
    wpAny_mono (nameL_ok (st := ⟨inL line, [], none⟩) n2 (by decide +kernel) rfl ei F') (fun u s' h' => by obtain ⟨rfl, d⟩ := h'; cases d; exact hq _) fun _ _ z => z
  have body : wpAny (model prog w) A (execs [.Assign [.Name "instream" p5] (.Call (.Name "StringIO" p6) [.Name "instream" p7] [] p8) p9] env) Q E s := by
    refine wpAny_execs_cons (wpAny_Assign_Name (Call_ (nameG_ok n5 (by decide +kernel) hg hbn (.inl hsio) ei O.stays ?_)) rfl)
    refine callWith_K O.frag (pk9 w).1 (args_cons (nm F fun t => args_nil ⟨O.frag, ?_⟩) rfl)
    refine call_strm (c.mono (by lia)) sk O hlen fun s2 y dy m2 ny ndy O2 => ?_
    have F2 := F.toB (y := y) (dy := dy) (inL_vals line) m2 ndy
    refine wpAny_mono (storeO n2 ei F2 (v := .strm) .strm) (fun _ s3 h3 => ?_) fun _ _ z => z
    refine wpAny_execs_nil (h s3 y dy h3.1 (O2.mvL F2 h3.2) ?_ ndy)
    exact m2.trans h3.2 fun z o e nz => ⟨fun hz => nz (List.mem_cons_of_mem _ hz), fun hz => nz (by rw [List.mem_singleton.mp hz]; exact List.mem_cons_self ..)⟩
  refine wpAny_If (isTrue_plain (Call_ (nameG_ok n3 (by decide +kernel) hg hbn (.inr hisi) ei O.stays ?_)) rfl)
  refine callWith_builtin1 (args_cons (nm F fun t => args_cons (nameG_ok n4 (by decide +kernel) hg hbn (.inr hstr) ei O.stays (args_nil ?_)) rfl) rfl) rfl rfl
  exact IsiPair.str_str (wpAny_truthy_bool body)
theorem lex_weak {ad : Ad} : ReA ad ((Str.ofString "instream", .strm) :: (Str.ofString "infile", .none) :: (Str.ofString "posix", .bool true) :: (Str.ofString "eof", .none) :: (Str.ofString "commenters", .str "" 0) :: (Str.ofString "wordchars", .str "abcdfeghijklmnopqrstuvwxyzABCDEFGHIJKLMNOPQRSTUVWXYZ0123456789_ßàáâãäåæçèéêëìíîïðñòóôõöøùúûüýþÿÀÁÂÃÄÅÆÇÈÉÊËÌÍÎÏÐÑÒÓÔÕÖØÙÚÛÜÝÞ" 125) :: (lexA stS (.str "" 0)).drop 6) (lexA stS (.str "" 0)) := by
  unfold lexA stS
  refine .cons (fun _ d => d) (.cons (fun _ d => d) (.cons (fun _ d => d) (.cons (fun _ d => d) (.cons (fun _ d => d) (.cons (fun u d => ?_) (ReA.refl _))))))
  cases d; rename_i h; exact .str (Nat.le_trans h (by decide))
end
end Mine
end
/- S32 -/
section
open PySem PySem.W PyProof.Rows PySem.Calls Builtin
set_option Elab.async false
set_option linter.unusedVariables false
set_option linter.unusedSimpArgs false
namespace Mine
set_option maxRecDepth 100000
theorem at2_eq : putA (Str.ofString "pushback") .dq at1 = at2 := by kernel_rfl
theorem at4_eq : putA (Str.ofString "filestack") .dq at3 = at4 := by kernel_rfl
section
variable {prog : Program} {w : World} {B : Heap}
theorem init_ok {A : Around} {l : List Env} {s : Shared} {x dx : Addr} {line : Str} {tk : Tok} {R : Result → Shared → Prop} (c : Cx A 100) (sk : Stk A B l s.heap) (O : Obs w B (adA x dx) [] none s.heap) (hlen : line.length ≤ 16)
    (hR : ∀ s' ad, ad.x = x → ad.dx = dx → s.heap.get? ad.dy = none → Obs w B ad at5 (some (sAt line 0)) s'.heap → Mv [dx] s s' → R (.ok (.ret .none)) s') :
    codeAny (model prog w) A (.call (.ref 646) ⟨[.ref x, .str line tk], [(Str.ofString "posix", .bool true)]⟩) R s := by
  have Fo := wfP_of in_wf.2.1 in_wf.1
  have hps := in_wf.2.2
  have TO := tabO O.found
  rw [← in_a]
  refine call_handA (ad := adA x dx) (n := 99) (lx := inL line) Fo (O.found.fnAt (by decide) (mcode 5 (by decide))) c sk O (bindsTo_of O.frag fun S => in_bind w S (.ref x) (.str line tk) (.bool true)) (fun n v e => ?_) (fun p hp => Fo.loc p.1 ?_) fun env L s1 ei ef sk1 F1 O1 kp fr c1 => ?_
  · have z := zip_look (ad := adA x dx) [Str.ofString "self", Str.ofString "instream", Str.ofString "infile", Str.ofString "posix", Str.ofString "punctuation_chars"] [.ref x, .str line tk, .none, .bool true, .bool false] [.lex, .str line 16, .none, .bool true, .bool false] [] []
      (.cons .lex (.cons (.str hlen) (.cons .none (.cons (.bool _) (.cons (.bool _) .nil))))) (fun y v e => by cases e) n v (by simpa [inL] using e)
    simpa using z
  · rw [hps]
    simp only [List.mem_cons, List.not_mem_nil, or_false] at hp ⊢
    rcases hp with rfl | rfl | rfl | rfl | rfl <;> simp
  · rw [in_split]
    refine wpAny_execs_cons (stm_ok (c1.mono (by lia)) ei sk1 F1 O1 hlen fun s2 y dy F2 O2 m2 ndy => ?_)
    have ndy' : s.heap.get? dy = none := by
      cases e : s.heap.get? dy with
      | none => rfl
      | some o => rw [kp_heap kp _ _ e] at ndy; cases ndy
    have sk2 := sk1.mv m2
    refine oxs_then (ad := adB x dx y dy) TO ei ef (in_1 line _) (c1.mono (by lia)) sk2 F2 O2 fun s3 F3 O3 m3 => ?_
    have sk3 := sk2.mv m3
    refine wpAny_execs_cons (dq_stmt dq_1 ei F3 rfl O3 (by decide +kernel) (show at1.length ≤ 1000 by decide +kernel) fun d s4 F4 O4 m4 => ?_)
    rw [at2_eq] at O4
    have sk4 := sk3.mv m4
    refine oxs_then (ad := (adB x dx y dy).add d) TO ei ef (in_2 line _) (c1.mono (by lia)) sk4 F4 O4 fun s5 F5 O5 m5 => ?_
    have sk5 := sk4.mv m5
    refine wpAny_execs_cons (dq_stmt dq_2 ei F5 rfl O5 (by decide +kernel) (show at3.length ≤ 1000 by decide +kernel) fun d2 s6 F6 O6 m6 => ?_)
    rw [at4_eq] at O6
    have sk6 := sk5.mv m6
    refine oxs_then (ad := ((adB x dx y dy).add d).add d2) TO ei ef (in_3 line _) (c1.mono (by lia)) sk6 F6 O6 fun s7 F7 O7 m7 => ?_
    refine wpAny_execs_nil (hR s7 _ rfl rfl ndy' O7 ?_)
    have mm : Mv (L :: [dx, dy]) s2 s7 := by
      have a : Mv (L :: [dx, dy]) s3 s4 := m4.mono fun z o _ hz => List.mem_cons_of_mem _ hz
      have b : Mv (L :: [dx, dy]) s5 s6 := m6.mono fun z o _ hz => List.mem_cons_of_mem _ hz
      exact (((Mv.tr m3 a).tr m5).tr b).tr m7
    refine (Mv.of_keeps (W := [dx]) kp).trans (m2.trans (W'' := L :: [dx, dy]) mm fun z o e nz => ⟨fun hz => nz ?_, nz⟩) fun z o e nz => ⟨nz, fun hz => ?_⟩
    · rcases List.mem_cons.mp hz with rfl | hz
      · exact List.mem_cons_self ..
      · exact List.mem_cons_of_mem _ (by rw [List.mem_singleton.mp hz]; exact List.mem_cons_self ..)
    · rcases List.mem_cons.mp hz with rfl | hz
      · rw [fr] at e; cases e
      · rcases List.mem_cons.mp hz with rfl | hz
        · exact nz (List.mem_singleton_self _)
        · rw [List.mem_singleton.mp hz, ndy'] at e; cases e

/-- shlex(s, posix=True) -/
theorem call_shlex {A : Around} {l : List Env} {s : Shared} {line : Str} {tk : Tok} {Q E : Value → Shared → Prop} (c : Cx A 102) (sk : Stk A B l s.heap) (Fd : Found w B) (lim : B.NoLimit) (st : B.StaysIn s.heap) (up : B.objs.size ≤ s.heap.objs.size) (hlen : line.length ≤ 16)
    (h : ∀ s' ad, (∀ z ∈ ad.ws, s.heap.get? z = none) → Obs w B ad at5 (some (sAt line 0)) s'.heap → Keeps s s' → Q (.ref ad.x) s') :
    wpAny (model prog w) A (call (.ref 722) [.str line tk] [(Str.ofString "posix", .bool true)]) Q E s := by
  have X : (kFrag w).In s.heap := Fd.frag.keeps st
  have nb : ∀ z, s.heap.objs.size ≤ z → B.get? z = none := fun z hz => by
    cases e : B.get? z with
    | none => rfl
    | some o => exact absurd (Nat.lt_of_lt_of_le (Heap.lt_size e) up) (Nat.not_lt.mpr hz)
  have ns : ∀ z, s.heap.objs.size ≤ z → s.heap.get? z = none := fun z hz => by
    cases e : s.heap.get? z with
    | none => rfl
    | some o => exact absurd (Heap.lt_size e) (Nat.not_lt.mpr hz)
  refine wpAny_call ?_
  obtain ⟨hh, g, d, t, os⟩ := s
  dsimp only at X nb ns
  refine make_core (makes_of X (pk9 w).2.2) (looks_findIn X (pk10 w).1) (fun self => bind_fn X self (pk10 w).2) (.inl rfl) ?_
  have k : ∀ b o, hh.get? b = some o → ((hh.push emptyDict).push (instObj 722 hh.objs.size)).get? b = some o := fun b o e => Heap.get?_push_of_some _ (Heap.get?_push_of_some _ e)
  have hx : ((hh.push emptyDict).push (instObj 722 hh.objs.size)).get? (hh.objs.size + 1) = some (instObj 722 hh.objs.size) := by heap_get
  have hdx : ((hh.push emptyDict).push (instObj 722 hh.objs.size)).get? hh.objs.size = some emptyDict := by heap_get
  have kp : Keeps (⟨hh, g, d, t, os⟩ : Shared) ⟨(hh.push emptyDict).push (instObj 722 hh.objs.size), g, d, t, os⟩ := ⟨_, _, rfl, k⟩
  have O : Obs w B (adA (hh.objs.size + 1) hh.objs.size) [] none ((hh.push emptyDict).push (instObj 722 hh.objs.size)) :=
    ⟨inst_new hx hdx, (fun l e => by cases e), (fun d hd => hd.elim), fun b o e => k b o (st b o e), nb _ (Nat.le_refl _), nb _ (Nat.le_refl _), Fd, lim, (fun _ => rfl), up, (fun n hn => by cases hn), (fun l e => by cases e)⟩
  refine init_ok (s := ⟨(hh.push emptyDict).push (instObj 722 hh.objs.size), g, d, t, os⟩) (under_cx c |>.mono (by lia)) ⟨sk.fr, (Mv.of_keeps (W := []) kp).frames sk.fun_⟩ O hlen fun s' ad e1 e2 e3 O' m' => ⟨rfl, ?_⟩
  rw [← e1]
  refine h s' ad (fun z hz => ?_) O' ?_
  · rcases List.mem_cons.mp hz with rfl | hz
    · rw [e2]; exact ns _ (Nat.le_refl _)
    · rw [List.mem_singleton.mp hz]
      show hh.get? ad.dy = none
      cases e : hh.get? ad.dy with
      | none => rfl
      | some o => have := k _ _ e; have e3 : ((hh.push emptyDict).push (instObj 722 hh.objs.size)).get? ad.dy = none := e3; rw [e3] at this; cases this
  · exact ((Mv.of_keeps (W := [hh.objs.size]) kp).trans (W'' := [hh.objs.size]) m' fun z o e n => ⟨n, n⟩).keeps fun z hz => by rw [List.mem_singleton.mp hz]; exact ns _ (Nat.le_refl _)
end
end Mine
end
/- S33 -/
section
open PySem PySem.W PyProof.Rows PySem.Calls Builtin
set_option Elab.async false
set_option linter.unusedVariables false
set_option linter.unusedSimpArgs false
namespace Mine
set_option maxRecDepth 100000
noncomputable def spF : Fn := fnOf (rowAt 2)
noncomputable def spSc : Scope := spF.fd.scope
theorem sp_a : spF.a = 734 := by kernel_rfl
theorem sp_bind (w : World) (S : Setting) (v : Value) : peek (kFrag w) S (bindArgs (fdOf (rowAt 2)) ⟨[v], []⟩) = some [(Str.ofString "s", v), (Str.ofString "comments", .bool false), (Str.ofString "posix", .bool true)] := by kernel_rfl
theorem sp_wf : wfOB spF = true ∧ (match spF.fd.body with | .stmts b => b | _ => []) = spF.body ∧ spF.ps = [Str.ofString "s", Str.ofString "comments", Str.ofString "posix"] := ⟨by decide +kernel, by kernel_rfl, by kernel_rfl⟩
theorem sp_names : spSc.names.lookup (Str.ofString "s") = some .local ∧ spSc.names.lookup (Str.ofString "posix") = some .local ∧ spSc.names.lookup (Str.ofString "lex") = some .local ∧ spSc.names.lookup (Str.ofString "shlex") = some .globalImplicit ∧ spSc.names.lookup (Str.ofString "list") = some .globalImplicit := ⟨by kernel_rfl, by kernel_rfl, by kernel_rfl, by kernel_rfl, by kernel_rfl⟩
theorem sp_shape : ∃ p1 k1 p2 p3 bd p4 p5 p6 p7 p8 p9 p10 p11 s2 s3 p12 p13 p14 p15, spF.body = [.If (.Compare (.Name "s" p1) [.Is] [.Constant .none k1 p2] p3) bd [] p4, .Assign [.Name "lex" p5] (.Call (.Name "shlex" p6) [.Name "s" p7] [⟨some (Str.ofString "posix"), .Name "posix" p8, p9⟩] p10) p11, s2, s3, .Return (some (.Call (.Name "list" p12) [.Name "lex" p13] [] p14)) p15] :=
  ⟨_, _, _, _, _, _, _, _, _, _, _, _, _, _, _, _, _, _, _, rfl⟩
noncomputable def spL (line : Str) : Attrs := [(Str.ofString "lex", .lex), (Str.ofString "posix", .bool true), (Str.ofString "comments", .bool false), (Str.ofString "s", .str line 16)]
noncomputable def at6 : Attrs := (Str.ofString "instream", .strm) :: (Str.ofString "infile", .none) :: (Str.ofString "posix", .bool true) :: (Str.ofString "eof", .none) :: (Str.ofString "commenters", .str "" 0) :: (Str.ofString "wordchars", .str "abcdfeghijklmnopqrstuvwxyzABCDEFGHIJKLMNOPQRSTUVWXYZ0123456789_ßàáâãäåæçèéêëìíîïðñòóôõöøùúûüýþÿÀÁÂÃÄÅÆÇÈÉÊËÌÍÎÏÐÑÒÓÔÕÖØÙÚÛÜÝÞ" 125) :: (lexA stS (.str "" 0)).drop 6
theorem sp_run (line : Str) (b : Option Attrs) : oxs otab spSc 60 ((spF.body.drop 2).take 2) ⟨spL line, at5, b⟩ = some (.next ⟨spL line, at6, b⟩) := by kernel_rfl
end Mine
end
/- S34 -/
section
open PySem PySem.W PyProof.Rows PySem.Calls Builtin
set_option Elab.async false
set_option linter.unusedVariables false
set_option linter.unusedSimpArgs false
namespace Mine
set_option maxRecDepth 100000
section
variable {prog : Program} {w : World} {B : Heap}
/-- split(line) -/
theorem split_ok {A : Around} {l : List Env} {s : Shared} {cs : List Nat} {tk : Tok} {Q E : Value → Shared → Prop} (hl : LenOk cs) (hc : CharsOk cs) (c : Cx A 120) (sk : Stk A B l s.heap) (Fd : Found w B) (lim : B.NoLimit) (st : B.StaysIn s.heap) (up : B.objs.size ≤ s.heap.objs.size)
    (hQ : ∀ a t qd tk' s', mach 0 [] false cs = some (t, qd) → s.heap.get? a = none → s'.heap.IsList a #[.str ⟨t.toArray⟩ tk'] → B.StaysIn s'.heap → MvU [] s s' → Q (.ref a) s')
    (hE : ∀ e s' ad, mach 0 [] false cs = none → FlyO B ad l "ValueError" [.str "No closing quotation" 20] [] s e s' → E e s') :
    wpAny (model prog w) A (call (.ref 734) [.str ⟨cs.toArray⟩ tk]) Q E s := by
  have hlen : (⟨cs.toArray⟩ : Str).length ≤ 16 := by
    have := len_le hl
    simp [Str.length]; lia
  have Fo := wfP_of sp_wf.2.1 sp_wf.1
  have hps := sp_wf.2.2
  have X : (kFrag w).In s.heap := Fd.frag.keeps st
  have Fa : FnAt B spF := Fd.rowAt (i := 2) (by decide)
  obtain ⟨o, ho, hdd, _⟩ := Fa.obj
  have fresh : s.heap.get? s.heap.objs.size = none := size_none _
  obtain ⟨mg, mb, hg, hbn, _, _, _, _, _, hls, hsh, _⟩ := blt_obj Fd
  obtain ⟨n1, n2, n3, n4, n5⟩ := sp_names
  rw [← sp_a]
  refine wpAny_call (codeAny_call_def (by have := c.depth; lia) (st _ _ ho) hdd (lim.keeps st) (Fa.code.keeps st) Fo.body (bindsTo_of X fun S => sp_bind w S (.str ⟨cs.toArray⟩ tk)) Fo.cell (fun p hp => Fo.loc p.1 ?_) (fun h₀ hn hk => ?_) Fo.co Fo.gen Fo.kind)
  · rw [hps]
    simp only [List.mem_cons, List.not_mem_nil, or_false] at hp ⊢
    rcases hp with rfl | rfl | rfl <;> simp
  have ei : EnvIs (callEnv spF.fd s.heap.objs.size spF.a) spSc s.heap.objs.size := ⟨rfl, rfl, Fo.gl, Fo.bl, Fo.kind⟩
  have ef := callEnv_frame spF.fd s.heap.objs.size spF.a Fo.kind
  have c1 := c.deeper (callEnv spF.fd s.heap.objs.size spF.a)
  have kp : Keeps s { s with heap := h₀, toks := s.toks + ([(Str.ofString "s", Value.str ⟨cs.toArray⟩ tk), (Str.ofString "comments", .bool false), (Str.ofString "posix", .bool true)] : List (Str × Value)).length } := ⟨h₀, _, rfl, hk⟩
  have bn : B.get? s.heap.objs.size = none := by
    cases e : B.get? s.heap.objs.size with
    | none => rfl
    | some o => exact absurd (Nat.lt_of_lt_of_le (Heap.lt_size e) up) (Nat.lt_irrefl _)
  have st0 : B.StaysIn h₀ := fun b o e => hk b o (st b o e)
  have sk0 : Stk (A.deeper (callEnv spF.fd s.heap.objs.size spF.a)) B (callEnv spF.fd s.heap.objs.size spF.a :: l) h₀ := ⟨Around.frames_deeper sk.fr, .cons (by rw [ei.scp, ei.kind]; decide) ef hn bn ((Mv.of_keeps (W := []) kp).frames sk.fun_)⟩
  have up0 : B.objs.size ≤ h₀.objs.size := by
    obtain ⟨oL, es, ep, eL, _⟩ := hn
    exact Nat.le_trans up (Nat.le_of_lt (Heap.lt_size eL))
  generalize henv : callEnv spF.fd s.heap.objs.size spF.a = env at *
  generalize hLL : s.heap.objs.size = L at *
  obtain ⟨p1, k1, p2, p3, bd, p4, p5, p6, p7, p8, p9, p10, p11, t2, t3, p12, p13, p14, p15, hb⟩ := sp_shape
  have hrun := fun b => sp_run ⟨cs.toArray⟩ b
  rw [hb] at hrun ⊢
  generalize hs0 : ({ s with heap := h₀, toks := s.toks + ([(Str.ofString "s", Value.str ⟨cs.toArray⟩ tk), (Str.ofString "comments", .bool false), (Str.ofString "posix", .bool true)] : List (Str × Value)).length } : Shared) = s0 at *
  have hh0 : s0.heap = h₀ := by rw [← hs0]
  -- names, before lex is made
  have name : ∀ {x : Str} {v : Value} {pos : Pos} {tk' : Nat} {Q' E' : Value → Shared → Prop}, spSc.names.lookup x = some .local → (x == ("__debug__" : Str)) = false → ([(Str.ofString "s", Value.str ⟨cs.toArray⟩ tk), (Str.ofString "comments", .bool false), (Str.ofString "posix", .bool true)] : List (Str × Value)).reverse.lookup x = some v → Q' v { s0 with toks := tk' } →
      wpAny (model prog w) (A.deeper env) (eval (.Name x pos) env) Q' E' { s0 with toks := tk' } := by
    intro x v pos tk' Q' E' hx hd hv hq
    refine wpAny_Name (wpAny_loadName_local (m := fun x => ([(Str.ofString "s", Value.str ⟨cs.toArray⟩ tk), (Str.ofString "comments", .bool false), (Str.ofString "posix", .bool true)] : List (Str × Value)).reverse.lookup x) ?_ ?_ ?_ hv hq) hd
    · rw [ei.scp]; exact ei.kind
    · show env.scope.names.lookup _ = _; rw [ei.scp]; exact hx
    · rw [ei.loc]; show s0.heap.Ns L _; rw [hh0]; exact hn
  show wpAny _ _ _ _ _ { s0 with toks := s0.toks }
  refine wpAny_execs_cons (wpAny_If (wpAny_isTrue_Compare1 (name n1 (by decide +kernel) rfl (wpAny_Constant_none (is_none (wpAny_truthy_bool ?_)))) rfl))
  show wpAny _ _ (execs [] env) _ _ _
  refine wpAny_execs_nil ?_
  have X0 : (kFrag w).In s0.heap := by rw [hh0]; exact Fd.frag.keeps st0
  have st00 : B.StaysIn s0.heap := by rw [hh0]; exact st0
  have sk00 : Stk (A.deeper env) B (env :: l) s0.heap := by rw [hh0]; exact sk0
  have L0 : s.heap.get? L = none := fresh
  refine wpAny_execs_cons (wpAny_Assign_Name ?_ rfl)
  show wpAny _ _ (do callWith p10 (← eval (.Name "shlex" p6) env) [] (backTo p10 (starEach [.Name "s" p7] env)) (backToKw p10 (keywordEach [⟨some (Str.ofString "posix"), .Name "posix" p8, p9⟩] env))) _ _ _
  refine wpAny_bind (nameG_ok (s := s0) n4 (by decide +kernel) hg hbn (.inl hsh) ei st00 ?_)
  refine callWith_KW (K := kFrag w) (h₀ := s0.heap) X0 (pk9 w).2.1 rfl (args_cons (name (tk' := s0.toks) n1 (by decide +kernel) rfl (args_nil ?_)) rfl)
  refine kwAll_cons (name (tk' := s0.toks) n2 (by decide +kernel) rfl (kwAll_nil ⟨X0, ?_⟩))
  refine call_shlex (s := s0) (c1.mono (by lia)) sk00 Fd lim st00 (by rw [hh0]; exact up0) hlen fun s1 ad hws O1 k1' => ?_
  have kp0 : Keeps s s0 := kp
  have k01 : Keeps s s1 := kp_trans kp0 k1'
  have hwsS : ∀ z ∈ ad.ws, s.heap.get? z = none := fun z hz => by
    cases e : s.heap.get? z with
    | none => rfl
    | some o => have := kp_heap kp0 _ _ e; rw [hws z hz] at this; cases this
  have hn0 : s0.heap.Ns L (fun x => ([(Str.ofString "s", Value.str ⟨cs.toArray⟩ tk), (Str.ofString "comments", .bool false), (Str.ofString "posix", .bool true)] : List (Str × Value)).reverse.lookup x) := by rw [hh0]; exact hn
  have F1 : FrO ad B L [(Str.ofString "posix", .bool true), (Str.ofString "comments", .bool false), (Str.ofString "s", .str ⟨cs.toArray⟩ 16)] s1.heap := by
    refine ⟨⟨_, hn0.keeps (kp_heap k1'), fun n v e => ?_⟩, bn, fun hz => ?_⟩
    · have z := zip_look (ad := ad) [Str.ofString "s", Str.ofString "comments", Str.ofString "posix"] [.str ⟨cs.toArray⟩ tk, .bool false, .bool true] [.str ⟨cs.toArray⟩ 16, .bool false, .bool true] [] [] (.cons (.str hlen) (.cons (.bool _) (.cons (.bool _) .nil))) (fun y v e => by cases e) n v (by simpa using e)
      simpa using z
    · obtain ⟨oL, es, ep, eL, _⟩ := hn0
      rw [hws L hz] at eL; cases eL
  have TO := tabO Fd
  refine wpAny_mono (storeO n3 ei F1 (v := .lex) .lex) (fun _ s2 h2 => ?_) fun _ _ z => z
  have O2 := O1.mvL F1 h2.2
  have sk2 : Stk (A.deeper env) B (env :: l) s2.heap := (sk00.mv (Mv.of_keeps (W := []) k1')).mv h2.2
  show wpAny _ _ (execs ([t2, t3] ++ [.Return (some (.Call (.Name "list" p12) [.Name "lex" p13] [] p14)) p15]) env) _ _ _
  refine oxs_then (ad := ad) TO ei ef (hrun _) (c1.mono (by lia)) sk2 h2.1 O2 fun s3 F3 O3 m3 => ?_
  have sk3 := sk2.mv m3
  have O3' := O3.re lex_weak
  have m13 : Mv (L :: ad.ws) s1 s3 := (mvL1 h2.2).tr m3
  refine wpAny_execs_cons (wpAny_Return_some (Call_ (nameG_ok n5 (by decide +kernel) hg hbn (.inr hls) ei O3.stays ?_)))
  refine PyProof.Rows.callWith_type1 (args_cons (wpAny_mono (nameL_ok (st := ⟨spL ⟨cs.toArray⟩, at6, none⟩) n3 (by decide +kernel) rfl ei F3) (fun ov s4 h4 => ?_) fun _ _ z => z) rfl) rfl rfl
  obtain ⟨rfl, dv⟩ := h4
  cases dv
  refine args_nil (list_lex hl hc (c1.mono (by lia)) sk3 O3' (fun a u t qd s5 hm na la du st5 mu => ?_) fun e s5 hm hf => ?_)
  · cases du
    rename_i tk' hle
    have mu1 : MvU (L :: ad.ws) s1 s5 := m13.thenU (W' := []) (mu.mono fun z o _ hz => List.mem_cons_of_mem _ hz)
    have mu0 : MvU [] s s5 := ((Mv.of_keeps (W := L :: ad.ws) k01).thenU (W' := []) mu1).mono fun z o e hz => by
      rcases List.mem_cons.mp hz with rfl | hz
      · rw [L0] at e; cases e
      · rw [hwsS z hz] at e; cases e
    refine hQ a t qd tk' s5 hm ?_ la st5 mu0
    cases e : s.heap.get? a with
    | none => rfl
    | some o =>
      have e1 := kp_heap k01 _ _ e
      by_cases z1 : a ∈ L :: ad.ws
      · rcases List.mem_cons.mp z1 with rfl | hz
        · rw [L0] at e; cases e
        · rw [hwsS a hz] at e; cases e
      · rw [m13.keep a o z1 e1] at na; cases na
  · refine exc_leave (s := s) (s₁ := s1) sk3.fr ef k01 L0 (fly_exc m13 hf) fun s6 h6 => hE e s6 ad hm ?_
    obtain ⟨ea, t, vs, q1, q2, q3, q4, q5, q6⟩ := h6
    exact ⟨ea, t, vs, q1, q2, q3, q4, q5, q6.mono fun z o e hz => by rw [hwsS z hz] at e; cases e⟩
end
end Mine
end
/- BT -/
section
open PySem PySem.W PyProof.Rows PySem.Calls
set_option Elab.async false
set_option linter.unusedVariables false
namespace Mine
/-- the table that turns + and / into the two marks -/
noncomputable def markTab : Array UInt8 := ((Array.range 256).map (·.toUInt8)).setIfInBounds 43 39 |>.setIfInBounds 47 34
theorem maketrans_eq (t u : Tok) : Builtin.«bytes.maketrans» ⟨[.bytes #[43, 47] t, .bytes #[39, 34] u], []⟩ = (mkBytes markTab >>= fun v => ret v) := by
  show Builtin.Bytes.maketransM .bytes _ = _
  unfold Builtin.Bytes.maketransM
  show (Builtin.Bytes.bytesLike _ (.bytes #[43, 47] t) >>= fun frm => Builtin.Bytes.bytesLike _ (.bytes #[39, 34] u) >>= fun to => _) = _
  rw [KBd.like_eq, KBd.like_eq]
  rfl
noncomputable def marked (b : Array UInt8) : Array UInt8 := (b.filter fun c => !(#[] : Array UInt8).contains c).map fun c => markTab.getD c.toNat c
theorem meets_translate (b : Array UInt8) (t u : Tok) (hsz : b.size ≤ 1048576) :
    Meets (Builtin.«bytes.translate» ⟨[.bytes b t, .bytes markTab u], []⟩) (fun _ R s => ∀ t' k, R (.ok (.ret (.bytes (marked b) t'))) { s with toks := k }) :=
  .of_wp fun prog w A R s hR => by
    obtain ⟨hp, g, d, tk, os⟩ := s
    have hne : ¬ (markTab.size != 256) = true := by decide +kernel
    wp_walk using (wpAny_of_eq KBd.like_eq)
    have e : (Array.map (fun c => match some markTab with | some t => t.getD c.toNat c | none => c) (Array.filter (fun x => !(#[] : Array UInt8).contains x) b)) = marked b := rfl
    rw [e]
    refine wpAny_ite_split (fun h => ?_) (fun h => ?_)
    · have q := eq_of_beq h
      refine wpAny_bind (wpAny_rule ?_)
      refine wpAny_bind (wpAny_of_eq (a := Value.bytes b t) rfl ?_)
      refine wpAny_pure ⟨_, rfl, ?_⟩
      have := hR t tk
      rw [q] at this
      exact this
    · have hs : (marked b).size ≤ 1048576 := by
        unfold marked
        rw [Array.size_map]
        exact Nat.le_trans Array.size_filter_le hsz
      refine wpAny_bind (m := Builtin.Bytes.Kind.bytes.new (marked b)) ?_
      show wpAny _ _ (mkBytes (marked b)) _ _ _
      unfold mkBytes
      refine wpAny_ite_split (fun q => absurd q (by rw [sizeLine_eq]; lia)) (fun _ => ?_)
      exact wpAny_bind (wpAny_fresh (wpAny_pure (wpAny_pure ⟨_, rfl, hR _ _⟩)))
end Mine
end
/- BU -/
section
open PySem PySem.W PyProof.Rows PySem.Calls
set_option Elab.async false
set_option linter.unusedVariables false
namespace Mine
open Builtin
set_option maxRecDepth 100000
theorem slot_translate : Slot "bytes" "translate" "bytes.translate" :=
  .of (owner := "bytes") (n := "translate") (by rw [typeLookup_type, builtinLookup_eq_fast]; kernel_rfl) (by decide +kernel) (by decide +kernel) (by decide +kernel)
    (by first | exact .inl (by decide +kernel) | exact .inr (by decide +kernel)) (by rw [isSubtype_type]; kernel_rfl)
theorem type_translate : typeOf (.builtin "bytes.translate") = pure (.type "method_descriptor") := by show builtinType _ = _; rw [builtinType_eq_fast]; kernel_rfl
theorem entry_translate : entryFor table "bytes.translate" = some Builtin.«bytes.translate» := entryFor_of_tree (by kernel_rfl)
theorem args_translate (a b : Value) : argsOk "bytes.translate" ⟨[a, b], []⟩ := by unfold argsOk; kernel_rfl
theorem entry_maketrans : entryFor table "bytes.maketrans" = some Builtin.«bytes.maketrans» := entryFor_of_tree (by kernel_rfl)
theorem args_maketrans (a b : Value) : argsOk "bytes.maketrans" ⟨[a, b], []⟩ := by unfold argsOk; kernel_rfl
theorem call_translate {prog : Program} {w : World} {A : Around} {E : Value → Shared → Prop} {s : Shared} {b : Array UInt8} {t u : Tok} {Q : Value → Shared → Prop} (hsz : b.size ≤ 1048576) (h : ∀ t' k, Q (.bytes (marked b) t') { s with toks := k }) :
    wpAny (model prog w) A (call (.builtin "bytes.translate") [.bytes b t, .bytes markTab u]) Q E s :=
  call_meets slot_translate (typeIs_bytes _ _ _) entry_translate (args_translate _ _) (meets_translate b t u hsz) h
end Mine
end
/- R4 -/
section
open PySem PySem.W PyProof.Rows PySem.Calls
set_option Elab.async false
set_option linter.unusedVariables false
set_option linter.unusedSimpArgs false
namespace Mine
set_option maxRecDepth 100000
noncomputable def noNat : Str → Option (Addr × (List AV → Option AV)) := fun _ => none
noncomputable def T0 : Tab := tabW noNat
noncomputable def baF : Fn := fnOf (rowAt 5)
noncomputable def beF : Fn := fnOf (rowAt 6)
theorem ba_wf : wfOB baF = true ∧ (match baF.fd.body with | .stmts b => b | _ => []) = baF.body := ⟨by decide +kernel, by kernel_rfl⟩
theorem be_wf : wfOB beF = true ∧ (match beF.fd.body with | .stmts b => b | _ => []) = beF.body := ⟨by decide +kernel, by kernel_rfl⟩
theorem ba_loc : ∀ p ∈ [Str.ofString "data", Str.ofString "newline"], baF.fd.scope.names.lookup p = some .local := by decide +kernel
theorem be_bind (w : World) (S : Setting) (a b : Value) : peek (kFrag w) S (bindArgs (fdOf (rowAt 6)) ⟨[a, b], []⟩) = some ([Str.ofString "s", Str.ofString "altchars"].zip [a, b]) := by kernel_rfl
theorem ba_bind (a b : Value) : bindArgs baF.fd ⟨[a], [(Str.ofString "newline", b)]⟩ = pure ([Str.ofString "data", Str.ofString "newline"].zip [a, b]) := by kernel_rfl
noncomputable def baL (b : List UInt8) : FS := ⟨[(Str.ofString "newline", .bool false), (Str.ofString "data", .bytes b)], none⟩
noncomputable def bytesOf : AV → Option (List UInt8)
  | .bytes b => some b
  | _ => none
theorem bytesOf_ok {a : AV} {b : List UInt8} (h : bytesOf a = some b) : a = .bytes b := by
  cases a <;> cases h; rfl
noncomputable def retOf : Out → Option AV
  | .ret v => some v
  | _ => none
theorem retOf_ok {a : Out} {b : AV} (h : retOf a = some b) : a = .ret b := by
  cases a <;> cases h; rfl
noncomputable def baK (b : List UInt8) : Option AV := (exs T0 baF.fd.scope 70 baF.body (baL b)).bind retOf
noncomputable def beK : List AV → Option AV
  | [] => none
  | a :: r => (one r).bind fun c => (bytesOf a).bind fun b => (bytesOf c).bind fun al => if al = [39, 34] then (baK b).bind fun v => (bytesOf v).bind fun e => if e.length ≤ 1048576 then some (.bytes (marked e.toArray).toList) else none else none
theorem be_names : beF.fd.scope.names.lookup (Str.ofString "s") = some .local ∧ beF.fd.scope.names.lookup (Str.ofString "altchars") = some .local ∧ beF.fd.scope.names.lookup (Str.ofString "encoded") = some .local ∧ beF.fd.scope.names.lookup (Str.ofString "b2a_base64") = some .globalImplicit ∧ beF.fd.scope.names.lookup (Str.ofString "len") = some .globalImplicit ∧ beF.fd.scope.names.lookup (Str.ofString "bytes") = some .globalImplicit := ⟨by kernel_rfl, by kernel_rfl, by kernel_rfl, by kernel_rfl, by kernel_rfl, by kernel_rfl⟩
section
variable {prog : Program} {w : World} {g : Heap}
theorem nat0 {prog : Program} {w : World} {g : Heap} (Fd : Found w g) : NatOk prog w T0 g := by
  obtain ⟨m, mb, n1, n2, n3, n4, n5, n6⟩ := Fd.names
  refine ⟨⟨m, n1, fun x a k h => ?_⟩, fun x a k h => ?_, fun x a k h => ?_, fun x a k h => ?_⟩ <;> cases h
/-- a call of a function that is walked by hand -/
theorem hand_call {F : Fn} (Fo : WfP F) (Fa : FnAt g F) (lim : g.NoLimit) {n : Nat} {A : Around} {hid : List Addr} {s : Shared} {args : Args} {ps : List Str} {vs : List Value} {xs : List AV} {Q E : Value → Shared → Prop} (c : Cx A (n + 1)) (lv : Live hid s.heap) (top : ∀ b o, g.get? b = some o → s.heap.get? b = some o)
    (hb : BindsTo s F.fd args (ps.zip vs)) (loc : ∀ p ∈ ps, F.fd.scope.names.lookup p = some .local) (d : DenAll (vw s.heap hid) vs xs)
    (h : ∀ env L s₁ (Q' : Flow → Shared → Prop) (E' : Value → Shared → Prop), EnvIs env F.fd.scope L → FrameAt g hid L none ⟨(ps.zip xs).reverse, none⟩ s₁.heap → Cx (A.deeper env) n → (∀ v s', KB [L] s₁ s' → (Keeps s s' → Q v s') → Q' (.ret v) s') →
      wpAny (model prog w) (A.deeper env) (execs F.body env) Q' E' s₁) : wpAny (model prog w) A (call (.ref F.a) args.pos args.kw) Q E s := by
  obtain ⟨o, ho, hdd, _⟩ := Fa.obj
  have fresh : s.heap.get? s.heap.objs.size = none := size_none _
  refine wpAny_call (codeAny_call_def (by have := c.depth; lia) (top _ _ ho) hdd (lim.keeps top) (Fa.code.keeps top) Fo.body hb Fo.cell (fun p hp => loc p.1 (List.of_mem_zip hp).1) (fun h₀ hn hk => ?_) Fo.co Fo.gen Fo.kind)
  have kp : Keeps s { s with heap := h₀, toks := s.toks + (ps.zip vs).length } := ⟨h₀, _, rfl, hk⟩
  refine h _ s.heap.objs.size _ _ _ ⟨rfl, rfl, Fo.gl, Fo.bl, Fo.kind⟩ ?_ (c.deeper _) fun v s' kb hq => hq ((KB.trans (W'' := [s.heap.objs.size]) (KB.of_keeps (W := []) kp) kb fun x o e n => ⟨List.not_mem_nil, n⟩).keeps fun x hx => by rw [List.mem_singleton.mp hx]; exact fresh)
  refine ⟨⟨lv.keeps hk, lv.fresh fresh, fun b o e => hk b o (top b o e), _, hn, fun y v e => ?_⟩, ?_⟩
  · have d' : DenAll (vw h₀ (s.heap.objs.size :: hid)) vs xs := by
      refine d.mono fun b o q => ?_
      have q' := vw_some q
      rw [vw_get (by intro hb; rcases List.mem_cons.mp hb with z | z; (rw [z, fresh] at q'; cases q'.1); exact q'.2 z)]
      exact hk b o q'.1
    have := zip_den ps vs xs [] [] d' (fun y v e => by cases e) y v (by rw [List.append_nil]; exact e)
    rw [List.append_nil] at this
    exact this
  · cases e : g.get? s.heap.objs.size with
    | none => rfl
    | some o => rw [top _ _ e] at fresh; cases fresh
/-- b2a_base64(b, newline=False) -/
theorem ba_ok (Fd : Found w g) (lim : g.NoLimit) {A : Around} {s : Shared} {b : Array UInt8} {t : Tok} {v : AV} {Q E : Value → Shared → Prop} (c : Cx A 71) (top : ∀ b o, g.get? b = some o → s.heap.get? b = some o) (h : baK b.toList = some v)
    (hQ : ∀ u s', Keeps s s' → Den (vw s'.heap []) u v → Q u s') : wpAny (model prog w) A (call (.ref 756) [.bytes b t] [(Str.ofString "newline", .bool false)]) Q E s := by
  have ea : baF.a = 756 := by kernel_rfl
  obtain ⟨o, hr, ho⟩ := obind h
  cases retOf_ok ho
  rw [← ea]
  refine hand_call (args := ⟨[.bytes b t], [(Str.ofString "newline", .bool false)]⟩) (ps := [Str.ofString "data", Str.ofString "newline"]) (vs := [.bytes b t, .bool false]) (xs := [.bytes b.toList, .bool false]) (hid := []) (wfP_of ba_wf.2 ba_wf.1) (Fd.rowAt (i := 5) (by decide)) lim c (fun b hb => absurd hb List.not_mem_nil) top (.of_eq (ba_bind _ _)) ba_loc (.cons (.bytes _ _) (.cons (.bool _) .nil)) fun env L s₁ Q' E' ei Fr c1 hq => ?_
  have ok := (allOk (prog := prog) (topIs (nat := noNat) Fd lim) (nat0 Fd) 70 70 (Nat.le_refl _)).exs
  refine wpAny_mono (ok _ _ _ _ hr _ _ [] L none _ _ c1 ei Fr) (fun fl s' h' => ?_) fun _ _ z => z
  cases fl <;> try exact h'.elim
  exact hq _ _ h'.2 fun k => hQ _ _ k (h'.1.mono (vw_mono (fun _ _ e => e) fun b hb => absurd hb List.not_mem_nil))
end
end Mine
end
/- P1 -/
section
set_option linter.unusedVariables false
namespace Mine
/-- the place behind a figure -/
noncomputable def nx (p f : Nat) : Nat := if f < 62 then p else if f = 62 then (if p = 0 then 1 else if p = 1 then 0 else 2) else (if p = 0 then 2 else if p = 1 then 1 else 0)
noncomputable def wayA : Nat → Nat × Nat
  | 0 => (1, 0)
  | k + 1 => (62 * (wayA k).1 + 2 * (wayA k).2, (wayA k).1 + 63 * (wayA k).2)
noncomputable def ways (k p : Nat) : Nat := if p = 0 then (wayA k).1 else (wayA k).2
theorem wayA_eq (k : Nat) : 3 * (wayA k).1 = 64 ^ k + 2 * 61 ^ k ∧ 3 * (wayA k).2 + 61 ^ k = 64 ^ k := by
  induction k with
  | zero => decide
  | succ k ih =>
    obtain ⟨h1, h2⟩ := ih
    simp only [wayA, Nat.pow_succ]
    lia
theorem nx_lt {p : Nat} (hp : p < 3) (f : Nat) : nx p f < 3 := by
  unfold nx; repeat' split
  all_goals omega
theorem ways_succ {p : Nat} (hp : p < 3) (k : Nat) : ways (k + 1) p = 62 * ways k p + ways k (nx p 62) + ways k (nx p 63) := by
  rcases (show p = 0 ∨ p = 1 ∨ p = 2 by lia) with rfl | rfl | rfl <;> simp [ways, nx, wayA] <;> lia
noncomputable def good (p : Nat) : List Nat → Bool
  | [] => p == 0
  | f :: r => good (nx p f) r
noncomputable def rank (p : Nat) : List Nat → Nat
  | [] => 0
  | f :: r => min f 62 * ways r.length p + (if f = 63 then ways r.length (nx p 62) else 0) + rank (nx p f) r
noncomputable def unrank : Nat → Nat → Nat → List Nat
  | _, _, 0 => []
  | n, p, k + 1 =>
    if n < 62 * ways k p then (n / ways k p) :: unrank (n % ways k p) p k
    else if n - 62 * ways k p < ways k (nx p 62) then 62 :: unrank (n - 62 * ways k p) (nx p 62) k
    else 63 :: unrank (n - 62 * ways k p - ways k (nx p 62)) (nx p 63) k
theorem unrank_len : ∀ (k n p : Nat), (unrank n p k).length = k
  | 0, _, _ => rfl
  | k + 1, n, p => by simp only [unrank]; repeat' split
                      all_goals simp [unrank_len k]
theorem unrank_ok : ∀ (k n p : Nat), p < 3 → n < ways k p → good p (unrank n p k) = true ∧ rank p (unrank n p k) = n ∧ ∀ f ∈ unrank n p k, f < 64
  | 0, n, p, hp, h => by
    unfold ways wayA at h
    split at h
    · rename_i e; subst e; simp [unrank, good, rank]; omega
    · simp at h
  | k + 1, n, p, hp, h => by
    rw [ways_succ hp] at h
    simp only [unrank]
    split
    · rename_i h1
      have pos : 0 < ways k p := by
        rcases Nat.eq_zero_or_pos (ways k p) with e | e
        · rw [e] at h1; omega
        · exact e
      have hf : n / ways k p < 62 := (Nat.div_lt_iff_lt_mul pos).mpr h1
      obtain ⟨g, r, a⟩ := unrank_ok k (n % ways k p) p hp (Nat.mod_lt _ pos)
      have e : nx p (n / ways k p) = p := by unfold nx; rw [if_pos hf]
      refine ⟨by simp only [good, e]; exact g, ?_, ?_⟩
      · simp only [rank, e, r, unrank_len]
        rw [if_neg (by omega), Nat.min_eq_left (by omega)]
        have := Nat.div_add_mod n (ways k p)
        rw [Nat.mul_comm] at this
        omega
      · intro f hf'
        rcases List.mem_cons.mp hf' with e | e
        · omega
        · exact a f e
    · rename_i h1
      split
      · rename_i h2
        obtain ⟨g, r, a⟩ := unrank_ok k (n - 62 * ways k p) (nx p 62) (nx_lt hp _) h2
        refine ⟨by simp only [good]; exact g, ?_, ?_⟩
        · simp only [rank, r, unrank_len]; simp; omega
        · intro f hf'
          rcases List.mem_cons.mp hf' with e | e
          · omega
          · exact a f e
      · rename_i h2
        obtain ⟨g, r, a⟩ := unrank_ok k (n - 62 * ways k p - ways k (nx p 62)) (nx p 63) (nx_lt hp _) (by omega)
        refine ⟨by simp only [good]; exact g, ?_, ?_⟩
        · simp only [rank, r, unrank_len]; simp; omega
        · intro f hf'
          rcases List.mem_cons.mp hf' with e | e
          · omega
          · exact a f e
/-- a row's number is at most the ways, and less if the row is good -/
theorem rank_le : ∀ (r : List Nat) (p : Nat), p < 3 → (∀ f ∈ r, f < 64) → rank p r ≤ ways r.length p ∧ (good p r = true → rank p r < ways r.length p)
  | [], p, hp, _ => ⟨Nat.zero_le _, fun g => by simp [good] at g; subst g; simp [rank, ways, wayA]⟩
  | f :: r, p, hp, h => by
    have hf := h f (List.mem_cons_self ..)
    obtain ⟨i1, i2⟩ := rank_le r (nx p f) (nx_lt hp f) fun x hx => h x (List.mem_cons_of_mem _ hx)
    rw [List.length_cons, ways_succ hp]
    simp only [rank, good]
    rcases (show f < 62 ∨ f = 62 ∨ f = 63 by lia) with q | rfl | rfl
    · have e : nx p f = p := by unfold nx; rw [if_pos q]
      rw [e] at i1 i2 ⊢
      rw [if_neg (by lia), Nat.min_eq_left (by lia)]
      have m : f * ways r.length p + ways r.length p ≤ 62 * ways r.length p := by
        rw [← Nat.succ_mul]; exact Nat.mul_le_mul_right _ q
      exact ⟨by lia, fun g => by have := i2 g; lia⟩
    · simp; exact ⟨by lia, fun g => by have := i2 g; lia⟩
    · simp; exact ⟨by lia, fun g => by have := i2 g; lia⟩
/-- the order of rows -/
noncomputable def less : List Nat → List Nat → Bool
  | [], [] => false
  | [], _ :: _ => true
  | _ :: _, [] => false
  | a :: x, b :: y => if a = b then less x y else decide (a < b)
theorem rank_less : ∀ (r r' : List Nat) (p : Nat), p < 3 → r.length = r'.length → (∀ f ∈ r, f < 64) → (∀ f ∈ r', f < 64) → less r r' = true → rank p r ≤ rank p r' ∧ (good p r = true → rank p r < rank p r')
  | [], [], _, _, _, _, _, h => by simp [less] at h
  | [], _ :: _, _, _, e, _, _, _ => by simp at e
  | _ :: _, [], _, _, e, _, _, _ => by simp at e
  | a :: x, b :: y, p, hp, e, ha, hb, h => by
    have ha0 := ha a (List.mem_cons_self ..)
    have hb0 := hb b (List.mem_cons_self ..)
    have hx := fun f hf => ha f (List.mem_cons_of_mem _ hf)
    have hy := fun f hf => hb f (List.mem_cons_of_mem _ hf)
    have el : x.length = y.length := by simpa using e
    simp only [less] at h
    split at h
    · rename_i q
      subst q
      obtain ⟨i1, i2⟩ := rank_less x y (nx p a) (nx_lt hp a) el hx hy h
      simp only [rank, good, el]
      exact ⟨by lia, fun g => by have := i2 g; lia⟩
    · rename_i q
      have lt : a < b := of_decide_eq_true h
      obtain ⟨j1, j2⟩ := rank_le x (nx p a) (nx_lt hp a) hx
      simp only [rank, good, el] at j1 j2 ⊢
      rcases (show b < 62 ∨ b = 62 ∨ b = 63 by lia) with q | rfl | rfl
      · have e1 : nx p a = p := by unfold nx; rw [if_pos (by lia)]
        rw [e1] at j1 j2 ⊢
        rw [if_neg (by lia), Nat.min_eq_left (by lia), if_neg (by lia), Nat.min_eq_left (by lia)]
        have m : a * ways y.length p + ways y.length p ≤ b * ways y.length p := by
          rw [← Nat.succ_mul]; exact Nat.mul_le_mul_right _ lt
        exact ⟨by lia, fun g => by have := j2 g; lia⟩
      · have e1 : nx p a = p := by unfold nx; rw [if_pos (by lia)]
        rw [e1] at j1 j2 ⊢
        rw [if_neg (by lia), Nat.min_eq_left (by lia)]
        have m : a * ways y.length p + ways y.length p ≤ 62 * ways y.length p := by
          rw [← Nat.succ_mul]; exact Nat.mul_le_mul_right _ lt
        simp
        exact ⟨by lia, fun g => by have := j2 g; lia⟩
      · rcases (show a < 62 ∨ a = 62 by lia) with q | rfl
        · have e1 : nx p a = p := by unfold nx; rw [if_pos (by lia)]
          rw [e1] at j1 j2 ⊢
          rw [if_neg (by lia), Nat.min_eq_left (by lia)]
          have m : a * ways y.length p + ways y.length p ≤ 62 * ways y.length p := by
            rw [← Nat.succ_mul]; exact Nat.mul_le_mul_right _ q
          simp
          exact ⟨by lia, fun g => by have := j2 g; lia⟩
        · simp
          exact ⟨by lia, fun g => by have := j2 g; lia⟩
end Mine
end
/- P2 -/
section
set_option linter.unusedVariables false
namespace Mine
theorem less_tri : ∀ (a b : List Nat), a.length = b.length → less a b = true ∨ a = b ∨ less b a = true
  | [], [], _ => .inr (.inl rfl)
  | [], _ :: _, e => by simp at e
  | _ :: _, [], e => by simp at e
  | x :: a, y :: b, e => by
    simp only [less]
    rcases Nat.lt_trichotomy x y with h | h | h
    · exact .inl (by rw [if_neg (by lia)]; exact decide_eq_true h)
    · subst h
      simp only [if_true]
      rcases less_tri a b (by simpa using e) with q | q | q
      · exact .inl q
      · exact .inr (.inl (by rw [q]))
      · exact .inr (.inr q)
    · exact .inr (.inr (by rw [if_neg (by lia)]; exact decide_eq_true h))
theorem less_self : ∀ a : List Nat, less a a = false
  | [] => rfl
  | x :: a => by simp only [less, if_true]; exact less_self a
theorem good_top : ∀ (n : Nat), good 0 (List.replicate (2 * n) 63) = true ∧ good 2 (List.replicate (2 * n) 63) = false
  | 0 => ⟨rfl, rfl⟩
  | n + 1 => by
    have e : 2 * (n + 1) = 2 * n + 1 + 1 := by lia
    rw [e, List.replicate_succ, List.replicate_succ]
    have i := good_top n
    exact ⟨by simp only [good]; exact i.1, by simp only [good]; exact i.2⟩
theorem less_top : ∀ (r : List Nat), (∀ f ∈ r, f < 64) → less (List.replicate r.length 63) r = false
  | [], _ => rfl
  | f :: r, h => by
    have := h f (List.mem_cons_self ..)
    rw [List.length_cons, List.replicate_succ]
    simp only [less]
    split
    · exact less_top r fun x hx => h x (List.mem_cons_of_mem _ hx)
    · exact decide_eq_false (by lia)
theorem rank_lt {row : List Nat} (he : row.length % 2 = 0) (hf : ∀ f ∈ row, f < 64) : rank 0 row < ways row.length 0 := by
  have top : rank 0 (List.replicate row.length 63) < ways row.length 0 := by
    have g : good 0 (List.replicate row.length 63) = true := by
      have := (good_top (row.length / 2)).1
      rwa [show 2 * (row.length / 2) = row.length by lia] at this
    have := (rank_le (List.replicate row.length 63) 0 (by decide) (fun f h => by have := List.eq_of_mem_replicate h; lia)).2 g
    simpa using this
  rcases less_tri row (List.replicate row.length 63) (by simp) with h | h | h
  · have := (rank_less row _ 0 (by decide) (by simp) hf (fun f h => by have := List.eq_of_mem_replicate h; lia) h).1
    lia
  · rw [← h] at top; exact top
  · rw [less_top row hf] at h; cases h
theorem there_ok {row : List Nat} (he : row.length % 2 = 0) (hf : ∀ f ∈ row, f < 64) :
    good 0 (unrank (rank 0 row) 0 row.length) = true ∧ (∀ f ∈ unrank (rank 0 row) 0 row.length, f < 64) ∧ less (unrank (rank 0 row) 0 row.length) row = false ∧ (good 0 row = true ↔ unrank (rank 0 row) 0 row.length = row) := by
  obtain ⟨g, r, a⟩ := unrank_ok row.length (rank 0 row) 0 (by decide) (rank_lt he hf)
  have no : less (unrank (rank 0 row) 0 row.length) row = false := by
    cases h : less (unrank (rank 0 row) 0 row.length) row with
    | false => rfl
    | true =>
      have := (rank_less _ row 0 (by decide) (unrank_len ..) a hf h).2 g
      lia
  refine ⟨g, a, no, fun gr => ?_, fun e => by rw [e] at g; exact g⟩
  rcases less_tri (unrank (rank 0 row) 0 row.length) row (unrank_len ..) with h | h | h
  · rw [no] at h; cases h
  · exact h
  · have := (rank_less row _ 0 (by decide) (unrank_len ..).symm hf a h).2 gr
    lia
theorem ahead_ok {row : List Nat} (he : row.length % 2 = 0) (hf : ∀ f ∈ row, f < 64) (hp : 0 < rank 0 row) :
    good 0 (unrank (rank 0 row - 1) 0 row.length) = true ∧ (∀ f ∈ unrank (rank 0 row - 1) 0 row.length, f < 64) ∧ less (unrank (rank 0 row - 1) 0 row.length) row = true := by
  have lt := rank_lt he hf
  obtain ⟨g, r, a⟩ := unrank_ok row.length (rank 0 row - 1) 0 (by decide) (by lia)
  refine ⟨g, a, ?_⟩
  rcases less_tri (unrank (rank 0 row - 1) 0 row.length) row (unrank_len ..) with h | h | h
  · exact h
  · rw [h] at r; lia
  · have := (rank_less row _ 0 (by decide) (unrank_len ..).symm hf a h).1
    lia
end Mine
end
/- R6 -/
section
open PySem PySem.W PyProof.Rows
set_option Elab.async false
set_option linter.unusedVariables false
namespace Mine
set_option maxRecDepth 100000
noncomputable def listOf' : AV → Option (List AV)
  | .list xs => some xs
  | _ => none
theorem listOf'_ok {a : AV} {b : List AV} (h : listOf' a = some b) : a = .list b := by
  cases a <;> cases h; rfl
noncomputable def avs (r : List Nat) : List AV := r.map fun (f : Nat) => AV.int (f : Int)
/-- the figures of a row -/
noncomputable def natsOf : List AV → Option (List Nat)
  | [] => some []
  | a :: r => (intOf a).bind fun i => if 0 ≤ i ∧ i < 64 then (natsOf r).bind fun l => some (i.toNat :: l) else none
theorem natsOf_avs : ∀ r : List Nat, (∀ f ∈ r, f < 64) → natsOf (avs r) = some r := by
  intro r
  induction r with
  | nil => intro _; rfl
  | cons f r ih =>
    intro h
    have hf := h f (List.mem_cons_self ..)
    show (if 0 ≤ (f : Int) ∧ (f : Int) < 64 then (natsOf (avs r)).bind fun l => some ((f : Int).toNat :: l) else none) = _
    rw [if_pos ⟨by lia, by lia⟩, ih fun x hx => h x (List.mem_cons_of_mem _ hx)]
    rfl
theorem natsOf_ok : ∀ {ys : List AV} {r : List Nat}, natsOf ys = some r → ys = avs r ∧ ∀ f ∈ r, f < 64 := by
  intro ys
  induction ys with
  | nil => intro r h; cases h; exact ⟨rfl, fun f hf => by cases hf⟩
  | cons a ys ih =>
    intro r h
    obtain ⟨i, hi, h⟩ := obind h
    by_cases q : 0 ≤ i ∧ i < 64
    · rw [if_pos q] at h
      obtain ⟨l, hl, h⟩ := obind h
      cases h
      obtain ⟨rfl, h2⟩ := ih hl
      refine ⟨?_, fun f hf => ?_⟩
      · rw [intOf_ok hi]
        show _ = AV.int ((i.toNat : Nat) : Int) :: avs l
        rw [Int.toNat_of_nonneg q.1]
      · rcases List.mem_cons.mp hf with rfl | hf
        · lia
        · exact h2 f hf
    · rw [if_neg q] at h; cases h
noncomputable def numK (xs : List AV) : Option AV := (one xs).bind fun a => (listOf' a).bind fun ys => (natsOf ys).bind fun r => if r.length ≤ 12 then some (.int ((rank 0 r : Nat) : Int)) else none
noncomputable def rowK (xs : List AV) : Option AV := match xs with
  | [] => none
  | a :: t => (one t).bind fun b => (intOf a).bind fun n => (intOf b).bind fun S => if 0 ≤ n ∧ 0 ≤ S ∧ S ≤ 12 then some (.list (avs (unrank n.toNat 0 S.toNat))) else none
noncomputable def natW : Str → Option (Addr × (List AV → Option AV)) := fun x => if x = "b64encode" then some (764, beK) else if x = "_law_number" then some (862, numK) else if x = "_law_row" then some (869, rowK) else none
noncomputable def TW : Tab := tabW natW
noncomputable def nextF : Fn := fnOf (rowAt 18)
noncomputable def waysF : Fn := fnOf (rowAt 19)
noncomputable def numF : Fn := fnOf (rowAt 20)
noncomputable def rowF : Fn := fnOf (rowAt 21)
noncomputable def loopB : List Stmt → List Stmt
  | .For _ _ b _ _ :: _ => b
  | _ :: r => loopB r
  | [] => []
noncomputable def waysI (l : Int) : Nat → Int
  | 0 => (1 * 2 ^ (6 * l).toNat + 2 * 61 ^ l.toNat : Int).fdiv 3
  | _ => (1 * 2 ^ (6 * l).toNat - 61 ^ l.toNat : Int).fdiv 3
noncomputable def okL (l : Int) : Bool := decide (0 ≤ 6 * l ∧ 6 * l ≤ 1000000) && (decide (0 ≤ l ∧ l ≤ 1000000) && true)
noncomputable def numB : List Stmt := loopB numF.body
/-- the names in the loop of _law_number -/
noncomputable def numG (xs : List AV) (n : Int) (p : Nat) (k : Int) : FS := ⟨[("row", .list xs), ("number", .int n), ("place", .int p), ("k", .int k)], none⟩
noncomputable def numG' (xs : List AV) (n : Int) (p : Nat) (k l : Int) : FS := ⟨[("row", .list xs), ("number", .int n), ("place", .int p), ("k", .int k), ("left", .int l)], none⟩
noncomputable def lenOk (xs : List AV) : Bool := decide (xs.length ≤ 1048576)
noncomputable def smallI (a : Int) : Bool := decide (a.natAbs < two64)
noncomputable def okN (xs : List AV) (k f : Int) : Bool := lenOk xs && (decide (0 ≤ 6 * ((xs.length : Int) - 1 - k) ∧ 6 * ((xs.length : Int) - 1 - k) ≤ 1000000) && (decide (0 ≤ ((xs.length : Int) - 1 - k) ∧ ((xs.length : Int) - 1 - k) ≤ 1000000) && (smallI (min f 62) && true)))
theorem num_a0 (z : Nat) (xs : List AV) (n k f : Int) : Qt.go [true, false, true] [f, f, f] [] (exsT T0 numF.fd.scope (z + 60) numB (numG xs n 0 k) .done) = some ((okN xs k f, [true, f == 63, decide (f < 62)]), [itemI (.list xs) (.int k), itemI (.list xs) (.int k), itemI (.list xs) (.int k)], [], .next (numG' xs (n + min f 62 * waysI ((xs.length : Int) - 1 - k) 0) 0 k ((xs.length : Int) - 1 - k))) := by kernel_rfl
theorem num_b0 (z : Nat) (xs : List AV) (n k : Int) : Qt.go [true, false, false] [62, 62, 62] [] (exsT T0 numF.fd.scope (z + 60) numB (numG xs n 0 k) .done) = some ((okN xs k 62, [true, false, false]), [itemI (.list xs) (.int k), itemI (.list xs) (.int k), itemI (.list xs) (.int k)], [], .next (numG' xs (n + min 62 62 * waysI ((xs.length : Int) - 1 - k) 0) 1 k ((xs.length : Int) - 1 - k))) := by kernel_rfl
noncomputable def okM0 (xs : List AV) (k : Int) : Bool := lenOk xs && (decide (0 ≤ 6 * ((xs.length : Int) - 1 - k) ∧ 6 * ((xs.length : Int) - 1 - k) ≤ 1000000) && (decide (0 ≤ ((xs.length : Int) - 1 - k) ∧ ((xs.length : Int) - 1 - k) ≤ 1000000) && (decide (0 ≤ 6 * ((xs.length : Int) - 1 - k) ∧ 6 * ((xs.length : Int) - 1 - k) ≤ 1000000) && (decide (0 ≤ ((xs.length : Int) - 1 - k) ∧ ((xs.length : Int) - 1 - k) ≤ 1000000) && true))))
theorem num_c0 (z : Nat) (xs : List AV) (n k : Int) : Qt.go [true, true, false, false, false] [63, 63, 63] [] (exsT T0 numF.fd.scope (z + 60) numB (numG xs n 0 k) .done) = some ((okM0 xs k, [true, true, false, false, false]), [itemI (.list xs) (.int k), itemI (.list xs) (.int k), itemI (.list xs) (.int k)], [], .next (numG' xs (n + min 63 62 * waysI ((xs.length : Int) - 1 - k) 0 + waysI ((xs.length : Int) - 1 - k) 1) 2 k ((xs.length : Int) - 1 - k))) := by kernel_rfl
theorem num_a1 (z : Nat) (xs : List AV) (n k f : Int) : Qt.go [false, false, true] [f, f, f] [] (exsT T0 numF.fd.scope (z + 60) numB (numG xs n 1 k) .done) = some ((okN xs k f, [false, f == 63, decide (f < 62)]), [itemI (.list xs) (.int k), itemI (.list xs) (.int k), itemI (.list xs) (.int k)], [], .next (numG' xs (n + min f 62 * waysI ((xs.length : Int) - 1 - k) 1) 1 k ((xs.length : Int) - 1 - k))) := by kernel_rfl
theorem num_b1 (z : Nat) (xs : List AV) (n k : Int) : Qt.go [false, false, false] [62, 62, 62] [] (exsT T0 numF.fd.scope (z + 60) numB (numG xs n 1 k) .done) = some ((okN xs k 62, [false, false, false]), [itemI (.list xs) (.int k), itemI (.list xs) (.int k), itemI (.list xs) (.int k)], [], .next (numG' xs (n + min 62 62 * waysI ((xs.length : Int) - 1 - k) 1) 0 k ((xs.length : Int) - 1 - k))) := by kernel_rfl
noncomputable def okM1 (xs : List AV) (k : Int) : Bool := lenOk xs && (decide (0 ≤ 6 * ((xs.length : Int) - 1 - k) ∧ 6 * ((xs.length : Int) - 1 - k) ≤ 1000000) && (decide (0 ≤ ((xs.length : Int) - 1 - k) ∧ ((xs.length : Int) - 1 - k) ≤ 1000000) && (decide (0 ≤ 6 * ((xs.length : Int) - 1 - k) ∧ 6 * ((xs.length : Int) - 1 - k) ≤ 1000000) && (decide (0 ≤ ((xs.length : Int) - 1 - k) ∧ ((xs.length : Int) - 1 - k) ≤ 1000000) && true))))
theorem num_c1 (z : Nat) (xs : List AV) (n k : Int) : Qt.go [false, true, false, true, false] [63, 63, 63] [] (exsT T0 numF.fd.scope (z + 60) numB (numG xs n 1 k) .done) = some ((okM1 xs k, [false, true, false, true, false]), [itemI (.list xs) (.int k), itemI (.list xs) (.int k), itemI (.list xs) (.int k)], [], .next (numG' xs (n + min 63 62 * waysI ((xs.length : Int) - 1 - k) 1 + waysI ((xs.length : Int) - 1 - k) 0) 1 k ((xs.length : Int) - 1 - k))) := by kernel_rfl
theorem num_a2 (z : Nat) (xs : List AV) (n k f : Int) : Qt.go [false, false, true] [f, f, f] [] (exsT T0 numF.fd.scope (z + 60) numB (numG xs n 2 k) .done) = some ((okN xs k f, [false, f == 63, decide (f < 62)]), [itemI (.list xs) (.int k), itemI (.list xs) (.int k), itemI (.list xs) (.int k)], [], .next (numG' xs (n + min f 62 * waysI ((xs.length : Int) - 1 - k) 2) 2 k ((xs.length : Int) - 1 - k))) := by kernel_rfl
theorem num_b2 (z : Nat) (xs : List AV) (n k : Int) : Qt.go [false, false, false] [62, 62, 62] [] (exsT T0 numF.fd.scope (z + 60) numB (numG xs n 2 k) .done) = some ((okN xs k 62, [false, false, false]), [itemI (.list xs) (.int k), itemI (.list xs) (.int k), itemI (.list xs) (.int k)], [], .next (numG' xs (n + min 62 62 * waysI ((xs.length : Int) - 1 - k) 2) 2 k ((xs.length : Int) - 1 - k))) := by kernel_rfl
noncomputable def okM2 (xs : List AV) (k : Int) : Bool := lenOk xs && (decide (0 ≤ 6 * ((xs.length : Int) - 1 - k) ∧ 6 * ((xs.length : Int) - 1 - k) ≤ 1000000) && (decide (0 ≤ ((xs.length : Int) - 1 - k) ∧ ((xs.length : Int) - 1 - k) ≤ 1000000) && (decide (0 ≤ 6 * ((xs.length : Int) - 1 - k) ∧ 6 * ((xs.length : Int) - 1 - k) ≤ 1000000) && (decide (0 ≤ ((xs.length : Int) - 1 - k) ∧ ((xs.length : Int) - 1 - k) ≤ 1000000) && true))))
theorem num_c2 (z : Nat) (xs : List AV) (n k : Int) : Qt.go [false, true, false, false, false] [63, 63, 63] [] (exsT T0 numF.fd.scope (z + 60) numB (numG xs n 2 k) .done) = some ((okM2 xs k, [false, true, false, false, false]), [itemI (.list xs) (.int k), itemI (.list xs) (.int k), itemI (.list xs) (.int k)], [], .next (numG' xs (n + min 63 62 * waysI ((xs.length : Int) - 1 - k) 2 + waysI ((xs.length : Int) - 1 - k) 2) 0 k ((xs.length : Int) - 1 - k))) := by kernel_rfl
end Mine
end
/- R7 -/
section
open PySem PySem.W PyProof.Rows
set_option Elab.async false
set_option linter.unusedVariables false
namespace Mine
set_option maxRecDepth 100000
noncomputable def rowB : List Stmt := loopB rowF.body
noncomputable def rowG (xs : List AV) (n S : Int) (p : Nat) (k : Int) : FS := ⟨[("size", .int S), ("number", .int n), ("place", .int p), ("k", .int k)], some ("row", xs)⟩
noncomputable def rowG' (xs : List AV) (n S : Int) (p : Nat) (k a b : Int) : FS := ⟨[("size", .int S), ("number", .int n), ("place", .int p), ("k", .int k), ("plain", .int a), ("quoted", .int b)], some ("row", xs)⟩
noncomputable def okW (l : Int) (r : Bool) : Bool := decide (0 ≤ 6 * l ∧ 6 * l ≤ 1000000) && (decide (0 ≤ l ∧ l ≤ 1000000) && (decide (0 ≤ 6 * l ∧ 6 * l ≤ 1000000) && (decide (0 ≤ l ∧ l ≤ 1000000) && r)))
noncomputable def okA (l a : Int) (xs : List AV) : Bool := okW l (decide (a ≠ 0 ∧ a.natAbs < bigN) && (lenOk xs && (decide (a ≠ 0) && true)))
noncomputable def okB (l : Int) (xs : List AV) : Bool := okW l (lenOk xs && true)
noncomputable def toldF : Fn := fnOf (rowAt 23)
noncomputable def toldB : List Stmt := loopB toldF.body
noncomputable def toldG (xs : List AV) (sg wd : Str) (p : Nat) (f : Int) : FS := ⟨[("row", .list xs), ("signs", .str sg), ("word", .str wd), ("place", .int p), ("figure", .int f)], none⟩
theorem row_a0 (z : Nat) (xs : List AV) (n S k f : Int) : Qt.go [true, false, false, true, true] [f] [] (exsT T0 rowF.fd.scope (z + 60) rowB (rowG xs n S 0 k) .done) = some ((okA (S - 1 - k) (waysI (S - 1 - k) 0) xs, [true, false, false, decide (n < 62 * (waysI (S - 1 - k) 0)), decide (f < 62)]), [itemI (.list (xs ++ [.int (n.fdiv (waysI (S - 1 - k) 0))])) (.int k)], [], .next (rowG' (xs ++ [.int (n.fdiv (waysI (S - 1 - k) 0))]) (n.fmod (waysI (S - 1 - k) 0)) S 0 k (waysI (S - 1 - k) 0) (waysI (S - 1 - k) 1))) := by kernel_rfl
theorem row_b0 (z : Nat) (xs : List AV) (n S k : Int) : Qt.go [true, false, false, false, true, false, false] [62, 62] [] (exsT T0 rowF.fd.scope (z + 60) rowB (rowG xs n S 0 k) .done) = some ((okB (S - 1 - k) xs, [true, false, false, decide (n < 62 * (waysI (S - 1 - k) 0)), decide (n - 62 * (waysI (S - 1 - k) 0) < (waysI (S - 1 - k) 1)), false, false]), [itemI (.list (xs ++ [.int 62])) (.int k), itemI (.list (xs ++ [.int 62])) (.int k)], [], .next (rowG' (xs ++ [.int 62]) (n - 62 * (waysI (S - 1 - k) 0)) S 1 k (waysI (S - 1 - k) 0) (waysI (S - 1 - k) 1))) := by kernel_rfl
theorem row_c0 (z : Nat) (xs : List AV) (n S k : Int) : Qt.go [true, false, false, false, false, true, false] [63, 63] [] (exsT T0 rowF.fd.scope (z + 60) rowB (rowG xs n S 0 k) .done) = some ((okB (S - 1 - k) xs, [true, false, false, decide (n < 62 * (waysI (S - 1 - k) 0)), decide (n - 62 * (waysI (S - 1 - k) 0) < (waysI (S - 1 - k) 1)), true, false]), [itemI (.list (xs ++ [.int 63])) (.int k), itemI (.list (xs ++ [.int 63])) (.int k)], [], .next (rowG' (xs ++ [.int 63]) (n - 62 * (waysI (S - 1 - k) 0) - (waysI (S - 1 - k) 1)) S 2 k (waysI (S - 1 - k) 0) (waysI (S - 1 - k) 1))) := by kernel_rfl
theorem told_a0 (z : Nat) (xs : List AV) (sg wd c : Str) (f : Int) : Qt.go [true, true, true] [] [c] (exsT T0 toldF.fd.scope (z + 60) toldB (toldG xs sg wd 0 f) .done) = some (((decide (wd.length + c.length ≤ 1048576) && true), [decide (f < 62), true, decide (f < 62)]), [], [itemS (.str sg) (.int f)], .next (toldG xs sg (wd ++ c) 0 f)) := by kernel_rfl
theorem told_62_0 (z : Nat) (xs : List AV) (sg wd : Str) : Qt.go [false, false, false] [] [] (exsT T0 toldF.fd.scope (z + 60) toldB (toldG xs sg wd 0 62) .done) = some ((true, [false, false, false]), [], [], .next (toldG xs sg wd 1 62)) := by kernel_rfl
theorem told_63_0 (z : Nat) (xs : List AV) (sg wd : Str) : Qt.go [false, false, false] [] [] (exsT T0 toldF.fd.scope (z + 60) toldB (toldG xs sg wd 0 63) .done) = some ((true, [false, false, false]), [], [], .next (toldG xs sg wd 2 63)) := by kernel_rfl
theorem row_a1 (z : Nat) (xs : List AV) (n S k f : Int) : Qt.go [false, false, true, true, true] [f] [] (exsT T0 rowF.fd.scope (z + 60) rowB (rowG xs n S 1 k) .done) = some ((okA (S - 1 - k) (waysI (S - 1 - k) 1) xs, [false, false, true, decide (n < 62 * (waysI (S - 1 - k) 1)), decide (f < 62)]), [itemI (.list (xs ++ [.int (n.fdiv (waysI (S - 1 - k) 1))])) (.int k)], [], .next (rowG' (xs ++ [.int (n.fdiv (waysI (S - 1 - k) 1))]) (n.fmod (waysI (S - 1 - k) 1)) S 1 k (waysI (S - 1 - k) 1) (waysI (S - 1 - k) 0))) := by kernel_rfl
theorem row_b1 (z : Nat) (xs : List AV) (n S k : Int) : Qt.go [false, false, true, false, true, false, false] [62, 62] [] (exsT T0 rowF.fd.scope (z + 60) rowB (rowG xs n S 1 k) .done) = some ((okB (S - 1 - k) xs, [false, false, true, decide (n < 62 * (waysI (S - 1 - k) 1)), decide (n - 62 * (waysI (S - 1 - k) 1) < (waysI (S - 1 - k) 0)), false, false]), [itemI (.list (xs ++ [.int 62])) (.int k), itemI (.list (xs ++ [.int 62])) (.int k)], [], .next (rowG' (xs ++ [.int 62]) (n - 62 * (waysI (S - 1 - k) 1)) S 0 k (waysI (S - 1 - k) 1) (waysI (S - 1 - k) 0))) := by kernel_rfl
theorem row_c1 (z : Nat) (xs : List AV) (n S k : Int) : Qt.go [false, false, true, false, false, true, false] [63, 63] [] (exsT T0 rowF.fd.scope (z + 60) rowB (rowG xs n S 1 k) .done) = some ((okB (S - 1 - k) xs, [false, false, true, decide (n < 62 * (waysI (S - 1 - k) 1)), decide (n - 62 * (waysI (S - 1 - k) 1) < (waysI (S - 1 - k) 0)), true, false]), [itemI (.list (xs ++ [.int 63])) (.int k), itemI (.list (xs ++ [.int 63])) (.int k)], [], .next (rowG' (xs ++ [.int 63]) (n - 62 * (waysI (S - 1 - k) 1) - (waysI (S - 1 - k) 0)) S 1 k (waysI (S - 1 - k) 1) (waysI (S - 1 - k) 0))) := by kernel_rfl
theorem told_a1 (z : Nat) (xs : List AV) (sg wd c : Str) (f : Int) : Qt.go [true, true, true] [] [c] (exsT T0 toldF.fd.scope (z + 60) toldB (toldG xs sg wd 1 f) .done) = some (((decide (wd.length + c.length ≤ 1048576) && true), [decide (f < 62), true, decide (f < 62)]), [], [itemS (.str sg) (.int f)], .next (toldG xs sg (wd ++ c) 1 f)) := by kernel_rfl
theorem told_62_1 (z : Nat) (xs : List AV) (sg wd : Str) : Qt.go [false, false, false] [] [] (exsT T0 toldF.fd.scope (z + 60) toldB (toldG xs sg wd 1 62) .done) = some ((true, [false, false, false]), [], [], .next (toldG xs sg wd 0 62)) := by kernel_rfl
theorem told_63_1 (z : Nat) (xs : List AV) (sg wd c : Str) : Qt.go [false, true, false] [] [c] (exsT T0 toldF.fd.scope (z + 60) toldB (toldG xs sg wd 1 63) .done) = some (((decide (wd.length + c.length ≤ 1048576) && true), [false, true, false]), [], [itemS (.str sg) (.int 63)], .next (toldG xs sg (wd ++ c) 1 63)) := by kernel_rfl
theorem row_a2 (z : Nat) (xs : List AV) (n S k f : Int) : Qt.go [false, false, false, true, true] [f] [] (exsT T0 rowF.fd.scope (z + 60) rowB (rowG xs n S 2 k) .done) = some ((okA (S - 1 - k) (waysI (S - 1 - k) 2) xs, [false, false, false, decide (n < 62 * (waysI (S - 1 - k) 2)), decide (f < 62)]), [itemI (.list (xs ++ [.int (n.fdiv (waysI (S - 1 - k) 2))])) (.int k)], [], .next (rowG' (xs ++ [.int (n.fdiv (waysI (S - 1 - k) 2))]) (n.fmod (waysI (S - 1 - k) 2)) S 2 k (waysI (S - 1 - k) 2) (waysI (S - 1 - k) 2))) := by kernel_rfl
theorem row_b2 (z : Nat) (xs : List AV) (n S k : Int) : Qt.go [false, false, false, false, true, false, false] [62, 62] [] (exsT T0 rowF.fd.scope (z + 60) rowB (rowG xs n S 2 k) .done) = some ((okB (S - 1 - k) xs, [false, false, false, decide (n < 62 * (waysI (S - 1 - k) 2)), decide (n - 62 * (waysI (S - 1 - k) 2) < (waysI (S - 1 - k) 2)), false, false]), [itemI (.list (xs ++ [.int 62])) (.int k), itemI (.list (xs ++ [.int 62])) (.int k)], [], .next (rowG' (xs ++ [.int 62]) (n - 62 * (waysI (S - 1 - k) 2)) S 2 k (waysI (S - 1 - k) 2) (waysI (S - 1 - k) 2))) := by kernel_rfl
theorem row_c2 (z : Nat) (xs : List AV) (n S k : Int) : Qt.go [false, false, false, false, false, true, false] [63, 63] [] (exsT T0 rowF.fd.scope (z + 60) rowB (rowG xs n S 2 k) .done) = some ((okB (S - 1 - k) xs, [false, false, false, decide (n < 62 * (waysI (S - 1 - k) 2)), decide (n - 62 * (waysI (S - 1 - k) 2) < (waysI (S - 1 - k) 2)), true, false]), [itemI (.list (xs ++ [.int 63])) (.int k), itemI (.list (xs ++ [.int 63])) (.int k)], [], .next (rowG' (xs ++ [.int 63]) (n - 62 * (waysI (S - 1 - k) 2) - (waysI (S - 1 - k) 2)) S 0 k (waysI (S - 1 - k) 2) (waysI (S - 1 - k) 2))) := by kernel_rfl
theorem told_a2 (z : Nat) (xs : List AV) (sg wd c : Str) (f : Int) : Qt.go [true, true, true] [] [c] (exsT T0 toldF.fd.scope (z + 60) toldB (toldG xs sg wd 2 f) .done) = some (((decide (wd.length + c.length ≤ 1048576) && true), [decide (f < 62), true, decide (f < 62)]), [], [itemS (.str sg) (.int f)], .next (toldG xs sg (wd ++ c) 2 f)) := by kernel_rfl
theorem told_62_2 (z : Nat) (xs : List AV) (sg wd c : Str) : Qt.go [false, true, false] [] [c] (exsT T0 toldF.fd.scope (z + 60) toldB (toldG xs sg wd 2 62) .done) = some (((decide (wd.length + c.length ≤ 1048576) && true), [false, true, false]), [], [itemS (.str sg) (.int 62)], .next (toldG xs sg (wd ++ c) 2 62)) := by kernel_rfl
theorem told_63_2 (z : Nat) (xs : List AV) (sg wd : Str) : Qt.go [false, false, false] [] [] (exsT T0 toldF.fd.scope (z + 60) toldB (toldG xs sg wd 2 63) .done) = some ((true, [false, false, false]), [], [], .next (toldG xs sg wd 0 63)) := by kernel_rfl
end Mine
end
/- R9 -/
section
open PySem PySem.W PyProof.Rows PySem.Calls
set_option Elab.async false
set_option linter.unusedVariables false
set_option linter.unusedSimpArgs false
namespace Mine
set_option maxRecDepth 100000
theorem isGl {T : Tab} {x : Str} (h : T.fn x = none) : (T.fn x).isNone = true := by rw [h]; rfl
theorem look_app {x : Str} {v : AV} (b : List (Str × AV)) : ∀ a : List (Str × AV), a.lookup x = some v → (a ++ b).lookup x = some v := by
  intro a
  induction a with
  | nil => intro e; cases e
  | cons p a ih =>
    obtain ⟨y, u⟩ := p
    intro e
    rw [List.lookup_cons] at e
    rw [List.cons_append, List.lookup_cons]
    cases q : x == y with
    | true => rw [q] at e; exact e
    | false => rw [q] at e; exact ih e
theorem Sub.app {a : List (Str × AV)} (b : List (Str × AV)) {o : Option (Str × List AV)} : Sub ⟨a, o⟩ ⟨a ++ b, o⟩ := ⟨fun x v e => look_app b a e, rfl⟩
section
variable {prog : Program} {w : World} {T : Tab} {g : Heap}
theorem OwnOf.trans {L : Addr} {oa oa' oa'' : Option Addr} {s s' : Shared} (k : KB (L :: oa.toList) s s') (hL : ∃ o, s'.heap.get? L = some o) (o1 : OwnOf oa oa' s) (o2 : OwnOf oa' oa'' s') : OwnOf oa oa'' s := fun a e => by
  rcases o2 a e with q | q
  · exact o1 a q
  · cases e2 : s.heap.get? a with
    | none => exact .inr rfl
    | some ob =>
      by_cases hm : a ∈ L :: oa.toList
      · rcases List.mem_cons.mp hm with rfl | hm
        · obtain ⟨o, eo⟩ := hL; rw [eo] at q; cases q
        · left; cases oa with
          | none => cases hm
          | some y => rw [List.mem_singleton.mp hm]
      · rw [k.heap a ob hm e2] at q; cases q
theorem FrameAt.no_own {hid : List Addr} {L : Addr} {oa : Option Addr} {f : FS} {h : Heap} (F : FrameAt g hid L oa f h) (ho : f.o = none) : oa = none := by
  cases oa with
  | none => rfl
  | some a => obtain ⟨m, hm, hl⟩ := F.ns; rw [ho] at hl; exact hl.elim
/-- statements, and then the rest -/
theorem exs_then (hT : TopIs T g) (hN : NatOk prog w T g) {sc : Scope} {env : Env} {A : Around} {L : Addr} {hid : List Addr} {rest : List Stmt} {Q : Flow → Shared → Prop} {E : Value → Shared → Prop} (ei : EnvIs env sc L) : ∀ {sts : List Stmt} {n : Nat} {f f' : FS} {oa : Option Addr} {s : Shared}, exs T sc n sts f = some (.next f') → Cx A n →
    FrameAt g hid L oa f s.heap → (∀ s' oa', FrameAt g hid L oa' f' s'.heap → KB (L :: oa.toList) s s' → OwnOf oa oa' s → wpAny (model prog w) A (execs rest env) Q E s') → wpAny (model prog w) A (execs (sts ++ rest) env) Q E s := by
  intro sts
  induction sts with
  | nil =>
    intro n f f' oa s h c F k
    cases n with
    | zero => cases h
    | succ n => cases h; exact k s oa F ⟨_, _, rfl, fun _ _ _ e => e⟩ fun a e => .inl e
  | cons sm r ih =>
    intro n f f' oa s h c F k
    cases n with
    | zero => cases h
    | succ n =>
    refine wpAny_execs_cons (wpAny_mono ((allK (prog := prog) hT hN n n (Nat.le_refl _)).ex sc sm f (fun o => (match o with | .next f' => exsT T sc n r f' .done | o => .done o)) _ h A env hid L oa s E c.less ei F) (fun fl s₁ hs => ?_) fun _ _ z => z)
    obtain ⟨o, so, h1⟩ := hs
    cases o with
    | next f1 =>
      cases fl <;> try exact so.elim
      obtain ⟨oa1, F1, k1, o1⟩ := so
      exact ih h1 c.less F1 fun s' oa' F' k' o' => k s' oa' F' (kb_own k1 o1 k') (.trans k1 (F1.liveL L (List.mem_cons_self ..)) o1 o')
    | brk f1 => cases h1
    | cont f1 => cases h1
    | ret v => cases h1
/-- for x in range(e): any invariant -/
theorem for_rangeJ {n : Nat} (hT : TopIs T g) (i1 : EvOk prog w T g n) {sc : Scope} {x : Str} {px pos : Pos} {it e : Expr} {body : List Stmt} {env : Env} {A : Around} {hid : List Addr} {L : Addr} {oa : Option Addr} {s : Shared} {f : FS} {b : Int} {J : Nat → FS → Prop} {fin : Out → Prop} {Q : Flow → Shared → Prop} {E : Value → Shared → Prop}
    (c : Cx A n) (ei : EnvIs env sc L) (hx : sc.names.lookup x = some .local) (hr : rangeOf it = some (e, [])) (hl : sc.names.lookup (Str.ofString "range") = some .globalImplicit) (h1 : T.fn (Str.ofString "range") = none) (h2 : T.nat (Str.ofString "range") = none) (h3 : T.val (Str.ofString "range") = none)
    (F : FrameAt g hid L oa f s.heap) (he : ev T sc n e f = some (.int b)) (hb : 0 ≤ b ∧ b ≤ 1048576) (step : StepJ prog w g A env L x body (rangeL 0 b 1) J fin) (h0 : J 0 f) (last : ∀ f', J (rangeL 0 b 1).length f' → fin (.next f')) (hQ : ∀ fl s' o, SOut g hid L oa s o fl s' → fin o → Q fl s') :
    wpAny (model prog w) A (exec (.For (.Name x px) it body [] pos) env) Q E s := by
  obtain ⟨⟨gp, cp, rfl⟩, hall⟩ := rangeOf_ok hr
  have hall' : (isEv e && true) = true := hall
  refine wpAny_For ?_ (fun _ => rfl)
  refine Call_ (blt_name hT hl (u := .type "range") (by decide +kernel) h1 h2 h3 ei F.top ?_)
  refine PyProof.Rows.callWith_type1 (args_cons (wpAny_mono (i1 sc e f _ he A env hid L oa s E c ei F.toFrameW) (fun v s₁ h₁ => ?_) fun _ _ z => z) (star_is (Bool.and_eq_true_iff.mp hall').1 [] env)) (star_is (Bool.and_eq_true_iff.mp hall').1 [] env) rfl
  obtain ⟨k1, d⟩ := h₁
  obtain ⟨t, rfl⟩ := d.inv_int
  refine args_nil ?_
  refine wpAny_mono (call_range_1 (Q := fun rv s₂ => ∃ r t u v, rv = .ref r ∧ Keeps s s₂ ∧ IsRange s₂.heap r 0 b 1 t u v) ⟨_, _, _, _, rfl, kp_trans k1 (kp_trans (kp_push _) (kp_tok _)), IsRange.new ..⟩) (fun rv s₂ h₂ => ?_) fun _ _ z => z
  obtain ⟨r', t, u, v, rfl, k2, hr2⟩ := h₂
  exact for_range hx c ei k2 F hr2 (by lia) (by lia) hb.1 hb.2 (by lia) (by lia) step h0 last fun fl s' o so hf => hQ fl s' o so hf
/-- for x in e: any invariant, e a list -/
theorem for_listJ {n : Nat} (i1 : EvOk prog w T g n) {sc : Scope} {x : Str} {px pos : Pos} {it : Expr} {body : List Stmt} {env : Env} {A : Around} {hid : List Addr} {L : Addr} {oa : Option Addr} {s : Shared} {f : FS} {xs : List AV} {J : Nat → FS → Prop} {fin : Out → Prop} {Q : Flow → Shared → Prop} {E : Value → Shared → Prop}
    (c : Cx A n) (ei : EnvIs env sc L) (hx : sc.names.lookup x = some .local) (F : FrameAt g hid L oa f s.heap) (he : ev T sc n it f.noOwn = some (.list xs)) (step : StepJ prog w g A env L x body xs J fin) (h0 : J 0 f) (last : ∀ f', J xs.length f' → fin (.next f')) (hQ : ∀ fl s' o, SOut g hid L oa s o fl s' → fin o → Q fl s') :
    wpAny (model prog w) A (exec (.For (.Name x px) it body [] pos) env) Q E s := by
  refine wpAny_For (wpAny_mono (i1 sc it f.noOwn _ he A env (oa.toList ++ hid) L none s E c ei F.noOwn.toFrameW) (fun u s₁ h₁ => ?_) fun _ _ z => z) (folded_id he env)
  exact for_list hx c ei h₁.1 F h₁.2 step h0 last fun fl s' o so hf => hQ fl s' o so hf
/-- an invariant on what is known of the frame -/
noncomputable def KnowJ (P : Nat → FS → Prop) (i : Nat) (f : FS) : Prop := ∃ G, P i G ∧ Sub G f
theorem Sub.set2 {G f : FS} (h : Sub G f) (x : Str) (y : AV) : Sub (G.set x y) (f.set x y) := by
  refine ⟨fun z u e => ?_, ?_⟩
  · have e : (setL x y G.l).lookup z = some u := e
    show (setL x y f.l).lookup z = some u
    rw [setL_look] at e ⊢
    by_cases q : (z == x) = true
    · rw [if_pos q] at e ⊢; exact e
    · rw [if_neg q] at e ⊢; exact h.l z u e
  · show (f.put x y).o = (G.put x y).o
    unfold FS.put
    rw [h.o]
/-- a turn by the interpreter, to a frame of which less need be known -/
theorem step_run {n : Nat} (ok : ExsOk prog w T g n) {sc : Scope} {x : Str} {body : List Stmt} {env : Env} {A : Around} {L : Addr} {xs : List AV} {P : Nat → FS → Prop} {fin : Out → Prop} (c : Cx A n) (ei : EnvIs env sc L)
    (h : ∀ i G y, P i G → xs[i]? = some y → ∃ G' G2, exs T sc n body (G.set x y) = some (.next G') ∧ Sub G2 G' ∧ P (i + 1) G2) : StepJ prog w g A env L x body xs (KnowJ P) fin := by
  intro i y f' hid oa s E ⟨G, hP, hJ⟩ hy F
  obtain ⟨G', G2, he, hs, h2⟩ := h i G y hP hy
  refine wpAny_mono (ok sc body _ _ he A env hid L oa s E c ei (F.sub (hJ.set2 x y))) (fun fl s' so => ?_) fun _ _ z => z
  exact ⟨.next G', so, G2, h2, hs⟩
end
noncomputable def forOf : List Stmt → Option (Str × Expr × List Stmt)
  | [] => none
  | st :: _ => match st with
    | .For t it b _ _ => (nameOf t).bind fun x => some (x, it, b)
    | _ => none
noncomputable def itOf (b : List Stmt) : Expr := match forOf b with | some p => p.2.1 | none => .Constant .none 0 ⟨0, 0, 0, 0⟩
end Mine
end
/- R10 -/
section
open PySem PySem.W PyProof.Rows
set_option Elab.async false
set_option linter.unusedVariables false
set_option linter.unusedSimpArgs false
namespace Mine
set_option maxRecDepth 100000
theorem ints_len' (r : List Nat) : (avs r).length = r.length := by simp [avs]
theorem waysI_eq (l p : Nat) : waysI (l : Int) p = (ways l p : Int) := by
  have e := wayA_eq l
  have h1 : (6 * (l : Int)).toNat = 6 * l := by lia
  have h2 : ((l : Int)).toNat = l := by lia
  have h3 : (2 : Int) ^ (6 * l) = ((64 ^ l : Nat) : Int) := by
    rw [Int.pow_mul]; push_cast; rfl
  have h4 : (61 : Int) ^ l = ((61 ^ l : Nat) : Int) := by push_cast; rfl
  cases p with
  | zero =>
    show (1 * 2 ^ (6 * (l : Int)).toNat + 2 * 61 ^ (l : Int).toNat : Int).fdiv 3 = _
    rw [h1, h2, h3, h4]
    simp only [ways, if_pos]
    have : (1 * ((64 ^ l : Nat) : Int) + 2 * ((61 ^ l : Nat) : Int)) = 3 * ((wayA l).1 : Int) := by
      have := e.1
      generalize 64 ^ l = x at *
      generalize 61 ^ l = y at *
      lia
    rw [this]
    rw [Int.fdiv_eq_ediv_of_nonneg _ (by lia)]
    lia
  | succ p =>
    show (1 * 2 ^ (6 * (l : Int)).toNat - 61 ^ (l : Int).toNat : Int).fdiv 3 = _
    rw [h1, h2, h3, h4]
    simp only [ways, Nat.add_one_ne_zero, if_false]
    have : (1 * ((64 ^ l : Nat) : Int) - ((61 ^ l : Nat) : Int)) = 3 * ((wayA l).2 : Int) := by
      have := e.2
      generalize 64 ^ l = x at *
      generalize 61 ^ l = y at *
      lia
    rw [this]
    rw [Int.fdiv_eq_ediv_of_nonneg _ (by lia)]
    lia
theorem item_list (xs : List AV) (i : Int) (h : 0 ≤ i ∧ i < 1048576) : item (.list xs) (.int i) = xs[i.toNat]? := if_pos h
theorem bound1 {k : Nat} (hk : k < 100) : 0 ≤ (k : Int) ∧ (k : Int) < 1048576 := ⟨Int.natCast_nonneg k, Int.lt_trans (Int.ofNat_lt.mpr hk) (by decide)⟩
theorem item_nat (xs : List AV) (k : Nat) (h : k < 100) : item (.list xs) (.int (k : Int)) = xs[k]? := item_list xs k (bound1 h)
theorem avs_get (r : List Nat) (k : Nat) : (avs r)[k]? = (r[k]?).map fun (f : Nat) => AV.int (f : Int) := List.getElem?_map
theorem itemI_of {a b : AV} {i : Int} (h : item a b = some (.int i)) : itemI a b = some i := by unfold itemI; rw [h]; rfl
theorem item_ints {r : List Nat} {k : Nat} {f : Nat} (h : r[k]? = some f) (hk : k < 100) : itemI (.list (avs r)) (.int (k : Int)) = some (f : Int) :=
  itemI_of (by rw [item_nat _ _ hk, avs_get, h]; rfl)
theorem okN_of {r : List Nat} {k f : Nat} (hk : k < r.length) (hl : r.length ≤ 12) (hf : f < 64) : okN (avs r) (k : Int) (f : Int) = true := by
  simp only [okN, lenOk, smallI, ints_len', Bool.and_eq_true, decide_eq_true_eq, Bool.and_true]
  refine ⟨by omega, ⟨by omega, by omega⟩, ⟨by omega, by omega⟩, ?_⟩
  unfold two64
  omega
theorem okM_of {r : List Nat} {k : Nat} (hk : k < r.length) (hl : r.length ≤ 12) : okM0 (avs r) (k : Int) = true ∧ okM1 (avs r) (k : Int) = true ∧ okM2 (avs r) (k : Int) = true := by
  have key : (lenOk (avs r) && (decide (0 ≤ 6 * (((avs r).length : Int) - 1 - k) ∧ 6 * (((avs r).length : Int) - 1 - k) ≤ 1000000) && (decide (0 ≤ (((avs r).length : Int) - 1 - k) ∧ (((avs r).length : Int) - 1 - k) ≤ 1000000) && (decide (0 ≤ 6 * (((avs r).length : Int) - 1 - k) ∧ 6 * (((avs r).length : Int) - 1 - k) ≤ 1000000) && (decide (0 ≤ (((avs r).length : Int) - 1 - k) ∧ (((avs r).length : Int) - 1 - k) ≤ 1000000) && true))))) = true := by
    simp only [lenOk, ints_len', Bool.and_eq_true, decide_eq_true_eq, Bool.and_true]
    refine ⟨by lia, ⟨by lia, by lia⟩, ⟨by lia, by lia⟩, ⟨by lia, by lia⟩, by lia, by lia⟩
  exact ⟨key, key, key⟩
noncomputable def numG0 (xs : List AV) (n : Int) (p : Nat) : FS := ⟨[("row", .list xs), ("number", .int n), ("place", .int p)], none⟩
theorem num_set (xs : List AV) (n : Int) (p : Nat) (k : Int) : (numG0 xs n p).set "k" (.int k) = numG xs n p k := by kernel_rfl
/-- one step of _law_number -/
theorem num_step {r : List Nat} (hl : r.length ≤ 12) (hr : ∀ f ∈ r, f < 64) {k f p n z : Nat} (hp : p < 3) (hf : r[k]? = some f) :
    ∃ F', exs T0 numF.fd.scope (z + 60) numB ((numG0 (avs r) n p).set "k" (.int (k : Int))) = some (.next F') ∧ Sub (numG0 (avs r) ((n + min f 62 * ways (r.length - 1 - k) p + (if f = 63 then ways (r.length - 1 - k) (nx p 62) else 0) : Nat) : Int) (nx p f)) F' := by
  have hk : k < r.length := by
    rcases Nat.lt_or_ge k r.length with h | h
    · exact h
    · rw [List.getElem?_eq_none h] at hf; cases hf
  have hf64 : f < 64 := hr f (List.mem_of_getElem? hf)
  have it := item_ints hf (by lia)
  have el : ((avs r).length : Int) - 1 - (k : Int) = ((r.length - 1 - k : Nat) : Int) := by rw [ints_len']; lia
  have om := okM_of hk hl
  have fin : ∀ {a : Int} {q : Nat}, exs T0 numF.fd.scope (z + 60) numB (numG (avs r) n p k) = some (.next (numG' (avs r) a q k (((avs r).length : Int) - 1 - k))) → a = ((n + min f 62 * ways (r.length - 1 - k) p + (if f = 63 then ways (r.length - 1 - k) (nx p 62) else 0) : Nat) : Int) → q = nx p f →
      ∃ F', exs T0 numF.fd.scope (z + 60) numB ((numG0 (avs r) n p).set "k" (.int (k : Int))) = some (.next F') ∧ Sub (numG0 (avs r) ((n + min f 62 * ways (r.length - 1 - k) p + (if f = 63 then ways (r.length - 1 - k) (nx p 62) else 0) : Nat) : Int) (nx p f)) F' := by
    intro a q h ha hq
    rw [num_set]
    subst ha; subst hq
    exact ⟨_, h, Sub.app (a := [("row", .list (avs r)), ("number", _), ("place", _)]) [("k", _), ("left", _)]⟩
  rcases (show f < 62 ∨ f = 62 ∨ f = 63 by lia) with h | rfl | rfl
  · have e1 : ((f : Int) == 63) = false := by simp; lia
    have e2 : decide ((f : Int) < 62) = true := by simp; lia
    have ha : (n : Int) + min (f : Int) 62 * waysI (((avs r).length : Int) - 1 - k) p = ((n + min f 62 * ways (r.length - 1 - k) p + (if f = 63 then ways (r.length - 1 - k) (nx p 62) else 0) : Nat) : Int) := by
      rw [el, waysI_eq, if_neg (by lia), Int.min_eq_left (by lia), Nat.min_eq_left (by lia)]
      push_cast
      lia
    have hq : p = nx p f := by simp [nx, h]
    rcases (show p = 0 ∨ p = 1 ∨ p = 2 by lia) with rfl | rfl | rfl
    · exact fin (exs_go (num_a0 z (avs r) n k f) (okN_of hk hl hf64) (by rw [e1, e2]) (by rw [it]; rfl) rfl) ha hq
    · exact fin (exs_go (num_a1 z (avs r) n k f) (okN_of hk hl hf64) (by rw [e1, e2]) (by rw [it]; rfl) rfl) ha hq
    · exact fin (exs_go (num_a2 z (avs r) n k f) (okN_of hk hl hf64) (by rw [e1, e2]) (by rw [it]; rfl) rfl) ha hq
  · have ha : ∀ p : Nat, (n : Int) + min 62 62 * waysI (((avs r).length : Int) - 1 - k) p = ((n + min 62 62 * ways (r.length - 1 - k) p + (if 62 = 63 then ways (r.length - 1 - k) (nx p 62) else 0) : Nat) : Int) := by
      intro p
      rw [el, waysI_eq, if_neg (by lia)]
      have e1 : (min 62 62 : Int) = 62 := rfl
      have e2 : (min 62 62 : Nat) = 62 := rfl
      rw [e1, e2]
      push_cast
      lia
    rcases (show p = 0 ∨ p = 1 ∨ p = 2 by lia) with rfl | rfl | rfl
    · exact fin (exs_go (num_b0 z (avs r) n k) (okN_of hk hl hf64) rfl (by rw [it]; rfl) rfl) (ha 0) rfl
    · exact fin (exs_go (num_b1 z (avs r) n k) (okN_of hk hl hf64) rfl (by rw [it]; rfl) rfl) (ha 1) rfl
    · exact fin (exs_go (num_b2 z (avs r) n k) (okN_of hk hl hf64) rfl (by rw [it]; rfl) rfl) (ha 2) rfl
  · have ha : ∀ p q : Nat, q = nx p 62 → (n : Int) + min 63 62 * waysI (((avs r).length : Int) - 1 - k) p + waysI (((avs r).length : Int) - 1 - k) q = ((n + min 63 62 * ways (r.length - 1 - k) p + (if 63 = 63 then ways (r.length - 1 - k) (nx p 62) else 0) : Nat) : Int) := by
      intro p q hq
      rw [el, waysI_eq, waysI_eq, if_pos rfl, hq]
      have e1 : (min 63 62 : Int) = 62 := rfl
      have e2 : (min 63 62 : Nat) = 62 := rfl
      rw [e1, e2]
      push_cast
      lia
    rcases (show p = 0 ∨ p = 1 ∨ p = 2 by lia) with rfl | rfl | rfl
    · exact fin (exs_go (num_c0 z (avs r) n k) om.1 rfl (by rw [it]; rfl) rfl) (ha 0 1 rfl) rfl
    · exact fin (exs_go (num_c1 z (avs r) n k) om.2.1 rfl (by rw [it]; rfl) rfl) (ha 1 0 rfl) rfl
    · exact fin (exs_go (num_c2 z (avs r) n k) om.2.2 rfl (by rw [it]; rfl) rfl) (ha 2 2 rfl) rfl
theorem rangeL_nat (n : Nat) : rangeL 0 (n : Int) 1 = (List.range n).map fun (i : Nat) => AV.int (i : Int) := by
  unfold rangeL
  have e : (Builtin.Range.rangeSize 0 (n : Int) 1).toNat = n := by
    unfold Builtin.Range.rangeSize
    by_cases h : n = 0
    · subst h; rfl
    · rw [if_pos (by decide), if_pos (by lia)]
      lia
  rw [e]
  refine List.map_congr_left fun i _ => ?_
  rw [show (0 : Int) + (i : Int) * 1 = (i : Int) by lia]
theorem range_at {n i : Nat} {y : AV} (h : (rangeL 0 (n : Int) 1)[i]? = some y) : i < n ∧ y = .int (i : Int) := by
  rw [rangeL_nat] at h
  rw [List.getElem?_map] at h
  obtain ⟨j, hj, rfl⟩ := Option.map_eq_some_iff.mp h
  obtain ⟨h1, h2⟩ := List.getElem?_eq_some_iff.mp hj
  rw [List.getElem_range] at h2
  rw [List.length_range] at h1
  exact ⟨h1, by rw [h2]⟩

noncomputable def numI : Expr := match rangeOf (itOf (numF.body.drop 2)) with | some p => p.1 | none => .Constant .none 0 ⟨0, 0, 0, 0⟩
theorem num_shape : ∃ px pos, numF.body.drop 2 = .For (.Name (Str.ofString "k") px) (itOf (numF.body.drop 2)) numB [] pos :: numF.body.drop 3 ∧ rangeOf (itOf (numF.body.drop 2)) = some (numI, []) := ⟨_, _, rfl, rfl⟩
theorem num_init (xs : List AV) : exs T0 numF.fd.scope 20 (numF.body.take 2) ⟨(([Str.ofString "row"] : List Str).zip [.list xs]).reverse, none⟩ = some (.next (numG0 xs 0 0)) := by kernel_rfl
theorem num_len (xs : List AV) : Qt.go [] [] [] (evT T0 numF.fd.scope 20 numI (numG0 xs 0 0) .done) = some ((lenOk xs && true, []), [], [], .int (xs.length : Int)) := by kernel_rfl
theorem num_ret (xs : List AV) (n : Int) (p : Int) : exs T0 numF.fd.scope 20 (numF.body.drop 3) ⟨[("row", .list xs), ("number", .int n), ("place", .int p)], none⟩ = some (.ret (.int n)) := by kernel_rfl
theorem num_names : numF.fd.scope.names.lookup (Str.ofString "k") = some .local ∧ numF.fd.scope.names.lookup (Str.ofString "range") = some .globalImplicit ∧ T0.fn (Str.ofString "range") = none ∧ T0.val (Str.ofString "range") = none ∧ wfOB numF = true ∧ (match numF.fd.body with | .stmts b => b | _ => []) = numF.body ∧ numF.a = 862 := ⟨by kernel_rfl, by kernel_rfl, by kernel_rfl, by kernel_rfl, by decide +kernel, by kernel_rfl, by kernel_rfl⟩
theorem num_loc : ∀ p ∈ ([Str.ofString "row"] : List Str), numF.fd.scope.names.lookup p = some .local := by decide +kernel
theorem num_bind (a : Value) : bindArgs numF.fd ⟨[a], []⟩ = pure (([Str.ofString "row"] : List Str).zip [a]) := by kernel_rfl
section
open PySem.Calls
variable {prog : Program} {w : World} {g : Heap}
theorem allT0 (Fd : Found w g) (lim : g.NoLimit) (n : Nat) : AllOk prog w T0 g n := allOk (topIs (nat := noNat) Fd lim) (nat0 Fd) n n (Nat.le_refl _)
/-- _law_number(row) -/
theorem num_walk (Fd : Found w g) (lim : g.NoLimit) {r : List Nat} (hl : r.length ≤ 12) (hr : ∀ f ∈ r, f < 64) {A : Around} {hid : List Addr} {s : Shared} {v : Value} {E : Value → Shared → Prop} (c : Cx A 100) (lv : Live hid s.heap) (top : ∀ b o, g.get? b = some o → s.heap.get? b = some o) (d : Den (vw s.heap hid) v (.list (avs r))) :
    wpAny (model prog w) A (call (.ref 862) [v]) (Post hid s (.int ((rank 0 r : Nat) : Int))) E s := by
  obtain ⟨n1, n2, n3, n4, n5, n6, n7⟩ := num_names
  rw [← n7]
  refine hand_call (args := ⟨[v], []⟩) (ps := [Str.ofString "row"]) (xs := [.list (avs r)]) (wfP_of n6 n5) (Fd.rowAt (i := 20) (by decide)) lim c lv top (.of_eq (num_bind v)) num_loc (.cons d .nil) fun env L s₁ Q' E' ei Fr c1 hq => ?_
  obtain ⟨px, pos, hsh, hro⟩ := num_shape
  rw [show numF.body = numF.body.take 2 ++ numF.body.drop 2 from (List.take_append_drop 2 _).symm]
  refine exs_then (topIs (nat := noNat) Fd lim) (nat0 Fd) ei (num_init (avs r)) (c1.mono (by lia)) Fr fun s2 oa2 F2 k2 o2 => ?_
  rw [hsh]
  refine wpAny_execs_cons (for_rangeJ (b := ((avs r).length : Int)) (J := KnowJ fun i G => ∃ n p, G = numG0 (avs r) ((n : Nat) : Int) p ∧ p < 3 ∧ i ≤ r.length ∧ n + rank p (r.drop i) = rank 0 r) (fin := fun o => ∃ f, o = .next f ∧ ∃ p : Nat, Sub (numG0 (avs r) ((rank 0 r : Nat) : Int) p) f)
    (topIs (nat := noNat) Fd lim) (allT0 Fd lim 20).ev (c1.mono (by lia)) ei n1 hro n2 n3 rfl n4 F2 (ev_go (num_len (avs r)) ?_ rfl rfl rfl) ?_ (step_run (n := 60) (allT0 Fd lim 60).exs (c1.mono (by lia)) ei fun i G y hP hy => ?_) ⟨_, ⟨0, 0, rfl, by decide, Nat.zero_le _, Nat.zero_add _⟩, Sub.rfl' _⟩ (fun f' hf => ?_) fun fl s3 o so hf => ?_)
  · rw [lenOk, ints_len', Bool.and_true]; exact decide_eq_true (by lia)
  · rw [ints_len']; lia
  · obtain ⟨n, p, rfl, hp, hi, hn⟩ := hP
    rw [ints_len'] at hy
    obtain ⟨hi, rfl⟩ := range_at hy
    have hf : r[i]? = some r[i] := List.getElem?_eq_getElem hi
    obtain ⟨G', h1, h2⟩ := num_step (z := 0) (n := n) hl hr hp hf
    refine ⟨G', _, h1, h2, _, _, rfl, nx_lt hp _, hi, ?_⟩
    rw [← hn, List.drop_eq_getElem_cons hi]
    have e : (r.drop (i + 1)).length = r.length - 1 - i := by rw [List.length_drop]; lia
    simp only [rank, e]
    lia
  · obtain ⟨G, ⟨n, p, rfl, hp, hi, hn⟩, hs⟩ := hf
    rw [rangeL_nat, List.length_map, List.length_range, ints_len', List.drop_length] at hn
    have : n = rank 0 r := hn
    subst this
    exact ⟨f', rfl, p, hs⟩
  · obtain ⟨f, rfl, p, hs⟩ := hf
    cases fl <;> try exact so.elim
    obtain ⟨oa3, F3, k3, o3⟩ := so
    refine wpAny_mono ((allT0 Fd lim 20).exs numF.fd.scope _ _ _ (num_ret (avs r) _ (p : Int)) _ env hid L oa3 s3 _ (c1.mono (by lia)) ei (F3.sub hs)) (fun fl s4 so => ?_) fun _ _ z => z
    cases fl <;> try exact so.elim
    obtain ⟨d4, k4⟩ := so
    have o13 := OwnOf.trans k2 (F2.liveL L (List.mem_cons_self ..)) o2 o3
    exact hq _ _ (kb_own (kb_own k2 o2 k3) o13 k4) fun k => ⟨k, d4.mono (vw_mono (fun _ _ e => e) fun b hb => List.mem_cons_of_mem _ hb)⟩
end
end Mine
end
/- R11 -/
section
open PySem PySem.W PyProof.Rows
set_option Elab.async false
set_option linter.unusedVariables false
set_option linter.unusedSimpArgs false
namespace Mine
set_option maxRecDepth 100000
noncomputable def rowG0 (xs : List AV) (n S : Int) (p : Nat) : FS := ⟨[("size", .int S), ("number", .int n), ("place", .int p)], some ("row", xs)⟩
theorem ways_le (k p : Nat) : ways k p ≤ 64 ^ k := by
  have e := wayA_eq k
  have h : 61 ^ k ≤ 64 ^ k := Nat.pow_le_pow_left (by decide) k
  unfold ways
  generalize 64 ^ k = x at *
  generalize 61 ^ k = y at *
  split <;> lia
theorem ways_big {k : Nat} (hk : k ≤ 12) (p : Nat) : ways k p < 10000000000000000000000 := by
  have h := ways_le k p
  have h2 : 64 ^ k ≤ 64 ^ 12 := Nat.pow_le_pow_right (by decide) hk
  have h3 : 64 ^ 12 < 10000000000000000000000 := by decide
  lia
theorem okW_of {l : Nat} (hl : l < 12) {r : Bool} (h : r = true) : okW (l : Int) r = true := by
  simp only [okW, Bool.and_eq_true, decide_eq_true_eq]
  exact ⟨⟨by lia, by lia⟩, ⟨by lia, by lia⟩, ⟨by lia, by lia⟩, ⟨by lia, by lia⟩, h⟩
theorem lenOk_of (r : List Nat) (h : r.length ≤ 12) : lenOk (avs r) = true := by
  simp only [lenOk, ints_len', decide_eq_true_eq]; lia
theorem okA_of {l w : Nat} {pre : List Nat} (hl : l < 12) (hp : pre.length ≤ 12) (h0 : 0 < w) (hw : w < 10000000000000000000000) : okA (l : Int) (w : Int) (avs pre) = true := by
  refine okW_of hl ?_
  rw [lenOk_of pre hp]
  simp only [Bool.and_eq_true, decide_eq_true_eq, Bool.and_true, Bool.true_and]
  refine ⟨⟨by lia, ?_⟩, by lia⟩
  unfold bigN
  lia
theorem okB_of {l : Nat} {pre : List Nat} (hl : l < 12) (hp : pre.length ≤ 12) : okB (l : Int) (avs pre) = true := by
  refine okW_of hl ?_
  rw [lenOk_of pre hp]; rfl
theorem avs_app (a : List Nat) (f : Nat) : avs (a ++ [f]) = avs a ++ [AV.int (f : Int)] := by simp [avs]
theorem item_last (pre : List Nat) (f : Nat) (h : pre.length < 100) : itemI (.list (avs pre ++ [AV.int (f : Int)])) (.int (pre.length : Int)) = some (f : Int) := by
  rw [← avs_app]
  exact item_ints (by simp) h
theorem row_set (xs : List AV) (n S : Int) (p : Nat) (k : Int) : (rowG0 xs n S p).set "k" (.int k) = rowG xs n S p k := by kernel_rfl
/-- one step of _law_row -/
theorem row_step {S : Nat} (hS : S ≤ 12) {pre : List Nat} {l n p z : Nat} (hk : pre.length + 1 + l = S) (hp : p < 3) :
    ∃ F' f n', unrank n p (l + 1) = f :: unrank n' (nx p f) l ∧ exs T0 rowF.fd.scope (z + 60) rowB ((rowG0 (avs pre) n S p).set "k" (.int (pre.length : Int))) = some (.next F') ∧ Sub (rowG0 (avs (pre ++ [f])) n' S (nx p f)) F' := by
  have el : ((S : Int) - 1 - (pre.length : Int)) = (l : Int) := by lia
  have hl12 : l < 12 := by lia
  have hp12 : pre.length ≤ 12 := by lia
  have fin : ∀ {f n' : Nat} {xs : List AV} {a : Int} {q : Nat} {u v : Int}, exs T0 rowF.fd.scope (z + 60) rowB (rowG (avs pre) n S p (pre.length : Int)) = some (.next (rowG' xs a S q (pre.length : Int) u v)) → xs = avs (pre ++ [f]) → a = (n' : Int) → q = nx p f → unrank n p (l + 1) = f :: unrank n' (nx p f) l →
      ∃ F' f n', unrank n p (l + 1) = f :: unrank n' (nx p f) l ∧ exs T0 rowF.fd.scope (z + 60) rowB ((rowG0 (avs pre) n S p).set "k" (.int (pre.length : Int))) = some (.next F') ∧ Sub (rowG0 (avs (pre ++ [f])) n' S (nx p f)) F' := by
    intro f n' xs a q u v h hx ha hq hu
    rw [row_set]
    subst hx; subst ha; subst hq
    exact ⟨_, f, n', hu, h, Sub.app (a := [("size", _), ("number", _), ("place", _)]) [("k", _), ("plain", _), ("quoted", _)]⟩
  by_cases h1 : n < 62 * ways l p
  · have pos : 0 < ways l p := by
      rcases Nat.eq_zero_or_pos (ways l p) with e | e
      · rw [e] at h1; lia
      · exact e
    have hf : n / ways l p < 62 := (Nat.div_lt_iff_lt_mul pos).mpr h1
    have e1 : ((n : Int).fdiv (waysI ((S : Int) - 1 - (pre.length : Int)) p)) = ((n / ways l p : Nat) : Int) := by rw [el, waysI_eq]; exact (Int.ofNat_fdiv _ _).symm
    have e2 : ((n : Int).fmod (waysI ((S : Int) - 1 - (pre.length : Int)) p)) = ((n % ways l p : Nat) : Int) := by rw [el, waysI_eq]; exact (Int.ofNat_fmod _ _).symm
    have e3 : decide ((n : Int) < 62 * waysI ((S : Int) - 1 - (pre.length : Int)) p) = true := by rw [el, waysI_eq]; simp; lia
    have e4 : decide (((n / ways l p : Nat) : Int) < 62) = true := by simp only [decide_eq_true_eq]; lia
    have hq : p = nx p (n / ways l p) := by simp [nx, hf]
    have hu : unrank n p (l + 1) = (n / ways l p) :: unrank (n % ways l p) (nx p (n / ways l p)) l := by rw [← hq]; simp only [unrank]; rw [if_pos h1]
    have ok : okA ((S : Int) - 1 - (pre.length : Int)) (waysI ((S : Int) - 1 - (pre.length : Int)) p) (avs pre) = true := by rw [el, waysI_eq]; exact okA_of hl12 hp12 pos (ways_big (by lia) p)
    have it := item_last pre (n / ways l p) (by lia)
    have hx : avs pre ++ [AV.int ((n : Int).fdiv (waysI ((S : Int) - 1 - (pre.length : Int)) p))] = avs (pre ++ [n / ways l p]) := by rw [e1, avs_app]
    rcases (show p = 0 ∨ p = 1 ∨ p = 2 by lia) with rfl | rfl | rfl
    · exact fin (exs_go (row_a0 z (avs pre) n S pre.length ((n / ways l 0 : Nat) : Int)) ok (by rw [e3, e4]) (by rw [e1, it]; rfl) rfl) hx e2 hq hu
    · exact fin (exs_go (row_a1 z (avs pre) n S pre.length ((n / ways l 1 : Nat) : Int)) ok (by rw [e3, e4]) (by rw [e1, it]; rfl) rfl) hx e2 hq hu
    · exact fin (exs_go (row_a2 z (avs pre) n S pre.length ((n / ways l 2 : Nat) : Int)) ok (by rw [e3, e4]) (by rw [e1, it]; rfl) rfl) hx e2 hq hu
  · have e3 : decide ((n : Int) < 62 * waysI ((S : Int) - 1 - (pre.length : Int)) p) = false := by rw [el, waysI_eq]; simp; lia
    have e1 : (n : Int) - 62 * waysI ((S : Int) - 1 - (pre.length : Int)) p = ((n - 62 * ways l p : Nat) : Int) := by rw [el, waysI_eq]; lia
    have ok : okB ((S : Int) - 1 - (pre.length : Int)) (avs pre) = true := by rw [el]; exact okB_of hl12 hp12
    by_cases h2 : n - 62 * ways l p < ways l (nx p 62)
    · have e4 : ∀ q, q = nx p 62 → decide ((n : Int) - 62 * waysI ((S : Int) - 1 - (pre.length : Int)) p < waysI ((S : Int) - 1 - (pre.length : Int)) q) = true := by
        intro q hq; rw [e1, el, waysI_eq, hq]; simp only [decide_eq_true_eq]; lia
      have hu : unrank n p (l + 1) = 62 :: unrank (n - 62 * ways l p) (nx p 62) l := by simp only [unrank]; rw [if_neg h1, if_pos h2]
      have it := item_last pre 62 (by lia)
      have hx : avs pre ++ [AV.int 62] = avs (pre ++ [62]) := by rw [avs_app]; rfl
      have it' : itemI (.list (avs pre ++ [AV.int 62])) (.int (pre.length : Int)) = some 62 := it
      rcases (show p = 0 ∨ p = 1 ∨ p = 2 by lia) with rfl | rfl | rfl
      · exact fin (exs_go (row_b0 z (avs pre) n S pre.length) ok (by rw [e3, e4 1 rfl]) (by rw [it']; rfl) rfl) hx e1 rfl hu
      · exact fin (exs_go (row_b1 z (avs pre) n S pre.length) ok (by rw [e3, e4 0 rfl]) (by rw [it']; rfl) rfl) hx e1 rfl hu
      · exact fin (exs_go (row_b2 z (avs pre) n S pre.length) ok (by rw [e3, e4 2 rfl]) (by rw [it']; rfl) rfl) hx e1 rfl hu
    · have e4 : ∀ q, q = nx p 62 → decide ((n : Int) - 62 * waysI ((S : Int) - 1 - (pre.length : Int)) p < waysI ((S : Int) - 1 - (pre.length : Int)) q) = false := by
        intro q hq; rw [e1, el, waysI_eq, hq]; simp only [decide_eq_false_iff_not]; lia
      have e5 : ∀ q, q = nx p 62 → (n : Int) - 62 * waysI ((S : Int) - 1 - (pre.length : Int)) p - waysI ((S : Int) - 1 - (pre.length : Int)) q = ((n - 62 * ways l p - ways l (nx p 62) : Nat) : Int) := by
        intro q hq; rw [e1, el, waysI_eq, hq]; lia
      have hu : unrank n p (l + 1) = 63 :: unrank (n - 62 * ways l p - ways l (nx p 62)) (nx p 63) l := by simp only [unrank]; rw [if_neg h1, if_neg h2]
      have it := item_last pre 63 (by lia)
      have hx : avs pre ++ [AV.int 63] = avs (pre ++ [63]) := by rw [avs_app]; rfl
      have it' : itemI (.list (avs pre ++ [AV.int 63])) (.int (pre.length : Int)) = some 63 := it
      rcases (show p = 0 ∨ p = 1 ∨ p = 2 by lia) with rfl | rfl | rfl
      · exact fin (exs_go (row_c0 z (avs pre) n S pre.length) ok (by rw [e3, e4 1 rfl]) (by rw [it']; rfl) rfl) hx (e5 1 rfl) rfl hu
      · exact fin (exs_go (row_c1 z (avs pre) n S pre.length) ok (by rw [e3, e4 0 rfl]) (by rw [it']; rfl) rfl) hx (e5 0 rfl) rfl hu
      · exact fin (exs_go (row_c2 z (avs pre) n S pre.length) ok (by rw [e3, e4 2 rfl]) (by rw [it']; rfl) rfl) hx (e5 2 rfl) rfl hu
noncomputable def rowI : Expr := match rangeOf (itOf (rowF.body.drop 2)) with | some p => p.1 | none => .Constant .none 0 ⟨0, 0, 0, 0⟩
theorem row_shape : ∃ px pos, rowF.body.drop 2 = .For (.Name (Str.ofString "k") px) (itOf (rowF.body.drop 2)) rowB [] pos :: rowF.body.drop 3 ∧ rangeOf (itOf (rowF.body.drop 2)) = some (rowI, []) := ⟨_, _, rfl, rfl⟩
theorem row_init (n S : Int) : exs T0 rowF.fd.scope 20 (rowF.body.take 2) ⟨(([Str.ofString "number", Str.ofString "size"] : List Str).zip [.int n, .int S]).reverse, none⟩ = some (.next (rowG0 [] n S 0)) := by kernel_rfl
theorem row_len (n S : Int) : ev T0 rowF.fd.scope 20 rowI (rowG0 [] n S 0) = some (.int S) := by kernel_rfl
theorem row_ret (xs : List AV) (n S : Int) (p : Nat) : exs T0 rowF.fd.scope 20 (rowF.body.drop 3) (rowG0 xs n S p) = some (.ret (.list xs)) := by kernel_rfl
theorem row_names : rowF.fd.scope.names.lookup (Str.ofString "k") = some .local ∧ rowF.fd.scope.names.lookup (Str.ofString "range") = some .globalImplicit ∧ wfOB rowF = true ∧ (match rowF.fd.body with | .stmts b => b | _ => []) = rowF.body ∧ rowF.a = 869 := ⟨by kernel_rfl, by kernel_rfl, by decide +kernel, by kernel_rfl, by kernel_rfl⟩
theorem row_loc : ∀ p ∈ ([Str.ofString "number", Str.ofString "size"] : List Str), rowF.fd.scope.names.lookup p = some .local := by decide +kernel
theorem row_bind (a b : Value) : bindArgs rowF.fd ⟨[a, b], []⟩ = pure (([Str.ofString "number", Str.ofString "size"] : List Str).zip [a, b]) := by kernel_rfl
section
open PySem.Calls
variable {prog : Program} {w : World} {g : Heap}
/-- _law_row(number, size) -/
theorem row_walk (Fd : Found w g) (lim : g.NoLimit) {S n : Nat} (hS : S ≤ 12) {A : Around} {hid : List Addr} {s : Shared} {vs : List Value} {E : Value → Shared → Prop} (c : Cx A 100) (lv : Live hid s.heap) (top : ∀ b o, g.get? b = some o → s.heap.get? b = some o) (d : DenAll (vw s.heap hid) vs [.int (n : Int), .int (S : Int)]) :
    wpAny (model prog w) A (call (.ref 869) vs) (Post hid s (.list (avs (unrank n 0 S)))) E s := by
  obtain ⟨n1, n2, n5, n6, n7⟩ := row_names
  obtain ⟨u1, us, rfl, d1, d2⟩ := id d.inv_cons
  obtain ⟨u2, us, rfl, d3, d4⟩ := d2.inv_cons
  cases d4.inv_nil
  rw [← n7]
  refine hand_call (args := ⟨[u1, u2], []⟩) (ps := [Str.ofString "number", Str.ofString "size"]) (wfP_of n6 n5) (Fd.rowAt (i := 21) (by decide)) lim c lv top (.of_eq (row_bind u1 u2)) row_loc d fun env L s₁ Q' E' ei Fr c1 hq => ?_
  obtain ⟨px, pos, hsh, hro⟩ := row_shape
  rw [show rowF.body = rowF.body.take 2 ++ rowF.body.drop 2 from (List.take_append_drop 2 _).symm]
  refine exs_then (topIs (nat := noNat) Fd lim) (nat0 Fd) ei (row_init n S) (c1.mono (by lia)) Fr fun s2 oa2 F2 k2 o2 => ?_
  rw [hsh]
  refine wpAny_execs_cons (for_rangeJ (b := (S : Int)) (J := KnowJ fun i G => ∃ (n' p : Nat) (pre : List Nat), G = rowG0 (avs pre) ((n' : Nat) : Int) S p ∧ p < 3 ∧ pre.length = i ∧ i ≤ S ∧ pre ++ unrank n' p (S - i) = unrank n 0 S) (fin := fun o => ∃ f, o = .next f ∧ ∃ n' p : Nat, Sub (rowG0 (avs (unrank n 0 S)) ((n' : Nat) : Int) S p) f)
    (topIs (nat := noNat) Fd lim) (allT0 Fd lim 20).ev (c1.mono (by lia)) ei n1 hro n2 num_names.2.2.1 rfl num_names.2.2.2.1 F2 (row_len n S) (by lia) (step_run (n := 60) (allT0 Fd lim 60).exs (c1.mono (by lia)) ei fun i G y hP hy => ?_) ⟨_, ⟨n, 0, [], rfl, by decide, rfl, Nat.zero_le _, rfl⟩, Sub.rfl' _⟩ (fun f' hf => ?_) fun fl s3 o so hf => ?_)
  · obtain ⟨n', p, pre, rfl, hp, hi, hS', hn⟩ := hP
    obtain ⟨hi', rfl⟩ := range_at hy
    subst hi
    obtain ⟨F', f, n2, hu, h1, h2⟩ := row_step (z := 0) (n := n') (l := S - pre.length - 1) hS (pre := pre) (by lia) hp
    refine ⟨F', _, h1, h2, n2, _, _, rfl, nx_lt hp f, by rw [List.length_append]; rfl, hi', ?_⟩
    rw [← hn, show S - pre.length = S - pre.length - 1 + 1 by lia, hu, List.append_assoc, show S - (pre.length + 1) = S - pre.length - 1 by lia]
    rfl
  · obtain ⟨G, ⟨n', p, pre, rfl, hp, hi, hS', hn⟩, hs⟩ := hf
    rw [rangeL_nat, List.length_map, List.length_range] at hi hn
    rw [Nat.sub_self] at hn
    have hn : pre ++ [] = unrank n 0 S := hn
    rw [List.append_nil] at hn
    subst hn
    exact ⟨f', rfl, n', p, hs⟩
  · obtain ⟨f, rfl, n', p, hs⟩ := hf
    cases fl <;> try exact so.elim
    obtain ⟨oa3, F3, k3, o3⟩ := so
    refine wpAny_mono ((allT0 Fd lim 20).exs rowF.fd.scope _ _ _ (row_ret (avs (unrank n 0 S)) n' S p) _ env hid L oa3 s3 _ (c1.mono (by lia)) ei (F3.sub hs)) (fun fl s4 so => ?_) fun _ _ z => z
    cases fl <;> try exact so.elim
    obtain ⟨d4, k4⟩ := so
    have o13 := OwnOf.trans k2 (F2.liveL L (List.mem_cons_self ..)) o2 o3
    exact hq _ _ (kb_own (kb_own k2 o2 k3) o13 k4) fun k => ⟨k, d4.mono (vw_mono (fun _ _ e => e) fun b hb => List.mem_cons_of_mem _ hb)⟩
end
end Mine
end
/- R12 -/
section
open PySem PySem.W PyProof.Rows
set_option Elab.async false
set_option linter.unusedVariables false
set_option linter.unusedSimpArgs false
namespace Mine
set_option maxRecDepth 100000
/-- the signs of the figures -/
noncomputable def sgs : List Nat := [65, 66, 67, 68, 69, 70, 71, 72, 73, 74, 75, 76, 77, 78, 79, 80, 81, 82, 83, 84, 85, 86, 87, 88, 89, 90, 97, 98, 99, 100, 101, 102, 103, 104, 105, 106, 107, 108, 109, 110, 111, 112, 113, 114, 115, 116, 117, 118, 119, 120, 121, 122, 48, 49, 50, 51, 52, 53, 54, 55, 56, 57, 39, 34]
noncomputable def sgOf (f : Nat) : Nat := sgs.getD f 0
noncomputable def sgS : Str := ⟨sgs.toArray⟩
noncomputable def chrS (c : Nat) : Str := ⟨#[c]⟩
noncomputable def strL (l : List Nat) : Str := ⟨l.toArray⟩
theorem strL_app (l : List Nat) (c : Nat) : strL l ++ chrS c = strL (l ++ [c]) := by
  show Str.mk (l.toArray ++ #[c]) = _
  simp [strL]
theorem strL_len (l : List Nat) : (strL l).length = l.length := by simp [strL, Str.length]
/-- the word: the signs but the marks that open or close -/
noncomputable def wordOf : Nat → List Nat → List Nat
  | _, [] => []
  | p, f :: r => (if nx p f = p then [sgOf f] else []) ++ wordOf (nx p f) r
theorem item_strI (x : Str) (i : Int) (h : 0 ≤ i ∧ i < 1048576) : item (.str x) (.int i) = (match x.cps[i.toNat]? with | some c => some (.str ⟨#[c]⟩) | none => none) := if_pos h
theorem item_strN (x : Str) (k : Nat) (h : k < 100) : item (.str x) (.int (k : Int)) = (match x.cps[k]? with | some c => some (.str ⟨#[c]⟩) | none => none) := item_strI x k (bound1 h)
theorem itemS_of {a b : AV} {i : Str} (h : item a b = some (.str i)) : itemS a b = some i := by unfold itemS; rw [h]; rfl
theorem item_str {x : Str} {k : Nat} {c : Nat} (h : x.cps[k]? = some c) (hk : k < 100) : itemS (.str x) (.int (k : Int)) = some (chrS c) :=
  itemS_of (by rw [item_strN _ _ hk, h]; rfl)
theorem sg_item {f : Nat} (hf : f < 64) : itemS (.str sgS) (.int (f : Int)) = some (chrS (sgOf f)) := by
  refine item_str ?_ (by lia)
  show sgs.toArray[f]? = _
  have hl : f < sgs.length := hf
  simp [sgOf, List.getD, List.getElem?_eq_getElem hl]
noncomputable def toldG0 (xs : List AV) (wd : Str) (p : Nat) : FS := ⟨[("row", .list xs), ("signs", .str sgS), ("word", .str wd), ("place", .int p)], none⟩
theorem avs_at {r : List Nat} {i : Nat} {y : AV} (h : (avs r)[i]? = some y) : ∃ f, r[i]? = some f ∧ y = .int (f : Int) := by
  have h : (r.map fun (f : Nat) => AV.int (f : Int))[i]? = some y := h
  rw [List.getElem?_map] at h
  obtain ⟨f, hf, rfl⟩ := Option.map_eq_some_iff.mp h
  exact ⟨f, hf, rfl⟩
theorem told_set (xs : List AV) (wd : Str) (p : Nat) (f : Int) : (toldG0 xs wd p).set "figure" (.int f) = toldG xs sgS wd p f := by kernel_rfl
theorem told_step {xs : List AV} {f p z : Nat} {wd : List Nat} (hw : wd.length ≤ 100) (hp : p < 3) (hf : f < 64) :
    ∃ F', exs T0 toldF.fd.scope (z + 60) toldB ((toldG0 xs (strL wd) p).set "figure" (.int (f : Int))) = some (.next F') ∧ Sub (toldG0 xs (strL (wd ++ if nx p f = p then [sgOf f] else [])) (nx p f)) F' := by
  have it := sg_item hf
  have ok : (decide ((strL wd).length + (chrS (sgOf f)).length ≤ 1048576) && true) = true := by
    rw [strL_len]
    have : (chrS (sgOf f)).length = 1 := rfl
    rw [this]
    simp
    lia
  have fin : ∀ {wd' : Str} {q : Nat} {f' : Int}, exs T0 toldF.fd.scope (z + 60) toldB (toldG xs sgS (strL wd) p (f : Int)) = some (.next (toldG xs sgS wd' q f')) → wd' = strL (wd ++ if nx p f = p then [sgOf f] else []) → q = nx p f →
      ∃ F', exs T0 toldF.fd.scope (z + 60) toldB ((toldG0 xs (strL wd) p).set "figure" (.int (f : Int))) = some (.next F') ∧ Sub (toldG0 xs (strL (wd ++ if nx p f = p then [sgOf f] else [])) (nx p f)) F' := by
    intro wd' q f' h hx hq
    rw [told_set]
    subst hx; subst hq
    exact ⟨_, h, Sub.app (a := [("row", _), ("signs", _), ("word", _), ("place", _)]) [("figure", _)]⟩
  rcases (show f < 62 ∨ f = 62 ∨ f = 63 by lia) with h | rfl | rfl
  · have e2 : decide ((f : Int) < 62) = true := by simp; lia
    have hq : p = nx p f := by simp [nx, h]
    have hx : strL wd ++ chrS (sgOf f) = strL (wd ++ if nx p f = p then [sgOf f] else []) := by rw [if_pos hq.symm, strL_app]
    rcases (show p = 0 ∨ p = 1 ∨ p = 2 by lia) with rfl | rfl | rfl
    · exact fin (exs_go (told_a0 z xs sgS (strL wd) (chrS (sgOf f)) f) ok (by rw [e2]) rfl (by rw [it]; rfl)) hx hq
    · exact fin (exs_go (told_a1 z xs sgS (strL wd) (chrS (sgOf f)) f) ok (by rw [e2]) rfl (by rw [it]; rfl)) hx hq
    · exact fin (exs_go (told_a2 z xs sgS (strL wd) (chrS (sgOf f)) f) ok (by rw [e2]) rfl (by rw [it]; rfl)) hx hq
  · rcases (show p = 0 ∨ p = 1 ∨ p = 2 by lia) with rfl | rfl | rfl
    · exact fin (exs_go (told_62_0 z xs sgS (strL wd)) rfl rfl rfl rfl) (by simp [nx]) rfl
    · exact fin (exs_go (told_62_1 z xs sgS (strL wd)) rfl rfl rfl rfl) (by simp [nx]) rfl
    · exact fin (exs_go (told_62_2 z xs sgS (strL wd) (chrS (sgOf 62))) ok rfl rfl (congrArg (fun o => [o]) it)) (by rw [strL_app]; rfl) rfl
  · rcases (show p = 0 ∨ p = 1 ∨ p = 2 by lia) with rfl | rfl | rfl
    · exact fin (exs_go (told_63_0 z xs sgS (strL wd)) rfl rfl rfl rfl) (by simp [nx]) rfl
    · exact fin (exs_go (told_63_1 z xs sgS (strL wd) (chrS (sgOf 63))) ok rfl rfl (congrArg (fun o => [o]) it)) (by rw [strL_app]; rfl) rfl
    · exact fin (exs_go (told_63_2 z xs sgS (strL wd)) rfl rfl rfl rfl) (by simp [nx]) rfl
theorem told_init (xs : List AV) : exs T0 toldF.fd.scope 20 (toldF.body.take 3) ⟨(([Str.ofString "row"] : List Str).zip [.list xs]).reverse, none⟩ = some (.next (toldG0 xs (strL []) 0)) := by kernel_rfl
theorem told_iter (xs : List AV) (wd : Str) (p : Nat) : ev T0 toldF.fd.scope 20 (itOf (toldF.body.drop 3)) (toldG0 xs wd p).noOwn = some (.list xs) := by kernel_rfl
theorem told_for : ∃ px pos, toldF.body.take 4 = toldF.body.take 3 ++ [.For (.Name (Str.ofString "figure") px) (itOf (toldF.body.drop 3)) toldB [] pos] := ⟨_, _, rfl⟩
theorem told_fig : toldF.fd.scope.names.lookup (Str.ofString "figure") = some .local := by kernel_rfl
section
open PySem.Calls
variable {prog : Program} {w : World} {g : Heap}
theorem wordOf_app (p : Nat) : ∀ (a b : List Nat), wordOf p (a ++ b) = wordOf p a ++ wordOf (a.foldl nx p) b := by
  intro a
  induction a generalizing p with
  | nil => intro b; rfl
  | cons f r ih => intro b; show (_ ++ wordOf (nx p f) (r ++ b)) = (_ ++ wordOf (nx p f) r) ++ _; rw [ih, List.append_assoc]; rfl
/-- the first four statements of _law_told -/
theorem told_four (Fd : Found w g) (lim : g.NoLimit) {r : List Nat} (hl : r.length ≤ 12) (hr : ∀ f ∈ r, f < 64) {A : Around} {env : Env} {hid : List Addr} {L : Addr} {s : Shared} {rest : List Stmt} {Q : Flow → Shared → Prop} {E : Value → Shared → Prop} (c : Cx A 90) (ei : EnvIs env toldF.fd.scope L)
    (F : FrameAt g hid L none ⟨(([Str.ofString "row"] : List Str).zip [.list (avs r)]).reverse, none⟩ s.heap) (k : ∀ s', FrameAt g hid L none ⟨[("row", .list (avs r)), ("signs", .str sgS), ("word", .str (strL (wordOf 0 r)))], none⟩ s'.heap → KB [L] s s' → wpAny (model prog w) A (execs rest env) Q E s') :
    wpAny (model prog w) A (execs (toldF.body.take 4 ++ rest) env) Q E s := by
  obtain ⟨px, pos, hsh⟩ := told_for
  rw [hsh, List.append_assoc]
  refine exs_then (topIs (nat := noNat) Fd lim) (nat0 Fd) ei (told_init (avs r)) (c.mono (by lia)) F fun s2 oa2 F2 k2 o2 => ?_
  cases F2.no_own rfl
  refine wpAny_execs_cons (for_listJ (xs := avs r) (J := KnowJ fun i G => ∃ (wd : List Nat) (p : Nat), G = toldG0 (avs r) (strL wd) p ∧ p < 3 ∧ i ≤ r.length ∧ wd.length ≤ i ∧ wd ++ wordOf p (r.drop i) = wordOf 0 r) (fin := fun o => ∃ f, o = .next f ∧ ∃ p : Nat, Sub (toldG0 (avs r) (strL (wordOf 0 r)) p) f)
    (allT0 Fd lim 20).ev (c.mono (by lia)) ei told_fig F2 (told_iter (avs r) _ _) (step_run (n := 60) (allT0 Fd lim 60).exs (c.mono (by lia)) ei fun i G y hP hy => ?_) ⟨_, ⟨[], 0, rfl, by decide, Nat.zero_le _, Nat.le_refl _, rfl⟩, Sub.rfl' _⟩ (fun f' hf => ?_) fun fl s3 o so hf => ?_)
  · obtain ⟨wd, p, rfl, hp, hi, hw, hn⟩ := hP
    obtain ⟨f, hf, rfl⟩ := avs_at hy
    obtain ⟨hi', e⟩ := List.getElem?_eq_some_iff.mp hf
    obtain ⟨F', h1, h2⟩ := told_step (z := 0) (xs := avs r) (wd := wd) (by lia) hp (hr f (List.mem_of_getElem? hf))
    refine ⟨F', _, h1, h2, _, _, rfl, nx_lt hp f, hi', ?_, ?_⟩
    · rw [List.length_append]; split <;> (simp only [List.length_cons, List.length_nil]; lia)
    · rw [← hn, List.drop_eq_getElem_cons hi', e]
      show _ = wd ++ (_ ++ wordOf (nx p f) (r.drop (i + 1)))
      rw [List.append_assoc]
  · obtain ⟨G, ⟨wd, p, rfl, hp, hi, hw, hn⟩, hs⟩ := hf
    rw [ints_len', List.drop_length] at hn
    have hn : wd ++ [] = wordOf 0 r := hn
    rw [List.append_nil] at hn
    subst hn
    exact ⟨f', rfl, p, hs⟩
  · obtain ⟨f, rfl, p, hs⟩ := hf
    cases fl <;> try exact so.elim
    obtain ⟨oa3, F3, k3, o3⟩ := so
    cases F3.no_own hs.o
    exact k s3 ((F3.sub hs).sub (Sub.app (a := [("row", _), ("signs", _), ("word", _)]) [("place", _)])) (k2.trans k3 fun x o e n => ⟨n, n⟩)
end
end Mine
end
/- R8 -/
section
open PySem PySem.W PyProof.Rows
set_option Elab.async false
set_option linter.unusedVariables false
namespace Mine
set_option maxRecDepth 100000
namespace Qt
noncomputable def path {α : Type} : Qt α → List Bool
  | fail => []
  | done _ => []
  | ask c t e => c :: bif c then t.path else e.path
  | need _ t => t.path
  | look o k => match o with | some i => (k i).path | none => []
  | lookS o k => match o with | some i => (k i).path | none => []
end Qt
noncomputable def stepL (l : Int) (b : UInt8) : Int := Builtin.bitAnd (Builtin.bitOr (l * 2 ^ (8 : Int).toNat) (b.toNat : Int)) 65535
noncomputable def figAt (l : Int) (n : Int) : Option Int := itemI (.bytes alphabet) (.int (Builtin.bitAnd (l.fdiv (2 ^ n.toNat)) 63))
noncomputable def baT (b : List UInt8) : Qt Out := exsT T0 baF.fd.scope 70 baF.body (baL b) .done
noncomputable def outB (x : List Int) : List UInt8 := x.map fun n => n.toNat.toUInt8
noncomputable def inB (x : List Int) : Bool := x.all fun n => decide (0 ≤ n ∧ n < 256)
noncomputable def liF : Fn := fnOf (rowAt 22)
noncomputable def liT (f : List Int) : Qt Out := exsT TW liF.fd.scope 70 (liF.body.take 2) ⟨[("row", .list (f.map .int))], none⟩ .done
noncomputable def st6 (n f : Int) : Int := Builtin.bitOr (n * 2 ^ (6 : Int).toNat) f
noncomputable def octs (n : Int) : List Int := [n.fdiv (2 ^ (16 : Int).toNat), Builtin.bitAnd (n.fdiv (2 ^ (8 : Int).toNat)) 255, Builtin.bitAnd n 255]
theorem ba_1 (o0 o1 o2 : UInt8) (x0 x1 x2 x3 : Int) : Qt.go (Qt.path (baT [0, 0, 0])) [x0, x1, x2, x3] [] (baT [o0, o1, o2]) = some (((smallI (stepL 0 o0) && (smallI (stepL (stepL 0 o0) o1) && (inB [x0, x1, x2, x3] && true))), Qt.path (baT [0, 0, 0])), [figAt (stepL 0 o0) 2, figAt (stepL (stepL 0 o0) o1) 4, figAt (stepL (stepL (stepL 0 o0) o1) o2) 6, figAt (stepL (stepL (stepL 0 o0) o1) o2) 0], [], .ret (.bytes (outB [x0, x1, x2, x3]))) := by kernel_rfl
theorem ba_2 (o0 o1 o2 o3 o4 o5 : UInt8) (x0 x1 x2 x3 x4 x5 x6 x7 : Int) : Qt.go (Qt.path (baT [0, 0, 0, 0, 0, 0])) [x0, x1, x2, x3, x4, x5, x6, x7] [] (baT [o0, o1, o2, o3, o4, o5]) = some (((smallI (stepL 0 o0) && (smallI (stepL (stepL 0 o0) o1) && (smallI (stepL (stepL (stepL 0 o0) o1) o2) && (smallI (stepL (stepL (stepL (stepL 0 o0) o1) o2) o3) && (smallI (stepL (stepL (stepL (stepL (stepL 0 o0) o1) o2) o3) o4) && (inB [x0, x1, x2, x3, x4, x5, x6, x7] && true)))))), Qt.path (baT [0, 0, 0, 0, 0, 0])), [figAt (stepL 0 o0) 2, figAt (stepL (stepL 0 o0) o1) 4, figAt (stepL (stepL (stepL 0 o0) o1) o2) 6, figAt (stepL (stepL (stepL 0 o0) o1) o2) 0, figAt (stepL (stepL (stepL (stepL 0 o0) o1) o2) o3) 2, figAt (stepL (stepL (stepL (stepL (stepL 0 o0) o1) o2) o3) o4) 4, figAt (stepL (stepL (stepL (stepL (stepL (stepL 0 o0) o1) o2) o3) o4) o5) 6, figAt (stepL (stepL (stepL (stepL (stepL (stepL 0 o0) o1) o2) o3) o4) o5) 0], [], .ret (.bytes (outB [x0, x1, x2, x3, x4, x5, x6, x7]))) := by kernel_rfl
theorem ba_3 (o0 o1 o2 o3 o4 o5 o6 o7 o8 : UInt8) (x0 x1 x2 x3 x4 x5 x6 x7 x8 x9 x10 x11 : Int) : Qt.go (Qt.path (baT [0, 0, 0, 0, 0, 0, 0, 0, 0])) [x0, x1, x2, x3, x4, x5, x6, x7, x8, x9, x10, x11] [] (baT [o0, o1, o2, o3, o4, o5, o6, o7, o8]) = some (((smallI (stepL 0 o0) && (smallI (stepL (stepL 0 o0) o1) && (smallI (stepL (stepL (stepL 0 o0) o1) o2) && (smallI (stepL (stepL (stepL (stepL 0 o0) o1) o2) o3) && (smallI (stepL (stepL (stepL (stepL (stepL 0 o0) o1) o2) o3) o4) && (smallI (stepL (stepL (stepL (stepL (stepL (stepL 0 o0) o1) o2) o3) o4) o5) && (smallI (stepL (stepL (stepL (stepL (stepL (stepL (stepL 0 o0) o1) o2) o3) o4) o5) o6) && (smallI (stepL (stepL (stepL (stepL (stepL (stepL (stepL (stepL 0 o0) o1) o2) o3) o4) o5) o6) o7) && (inB [x0, x1, x2, x3, x4, x5, x6, x7, x8, x9, x10, x11] && true))))))))), Qt.path (baT [0, 0, 0, 0, 0, 0, 0, 0, 0])), [figAt (stepL 0 o0) 2, figAt (stepL (stepL 0 o0) o1) 4, figAt (stepL (stepL (stepL 0 o0) o1) o2) 6, figAt (stepL (stepL (stepL 0 o0) o1) o2) 0, figAt (stepL (stepL (stepL (stepL 0 o0) o1) o2) o3) 2, figAt (stepL (stepL (stepL (stepL (stepL 0 o0) o1) o2) o3) o4) 4, figAt (stepL (stepL (stepL (stepL (stepL (stepL 0 o0) o1) o2) o3) o4) o5) 6, figAt (stepL (stepL (stepL (stepL (stepL (stepL 0 o0) o1) o2) o3) o4) o5) 0, figAt (stepL (stepL (stepL (stepL (stepL (stepL (stepL 0 o0) o1) o2) o3) o4) o5) o6) 2, figAt (stepL (stepL (stepL (stepL (stepL (stepL (stepL (stepL 0 o0) o1) o2) o3) o4) o5) o6) o7) 4, figAt (stepL (stepL (stepL (stepL (stepL (stepL (stepL (stepL (stepL 0 o0) o1) o2) o3) o4) o5) o6) o7) o8) 6, figAt (stepL (stepL (stepL (stepL (stepL (stepL (stepL (stepL (stepL 0 o0) o1) o2) o3) o4) o5) o6) o7) o8) 0], [], .ret (.bytes (outB [x0, x1, x2, x3, x4, x5, x6, x7, x8, x9, x10, x11]))) := by kernel_rfl
theorem li_1 (f0 f1 f2 f3 : Int) : Qt.go [] [] [] (liT [f0, f1, f2, f3]) = some (((smallI (st6 0 f0) && (smallI (st6 (st6 0 f0) f1) && (smallI (st6 (st6 (st6 0 f0) f1) f2) && true))), []), [], [], .next ⟨[("row", .list ([f0, f1, f2, f3].map .int)), ("k", .int 0), ("number", .int (st6 (st6 (st6 (st6 0 f0) f1) f2) f3)), ("figure", .int f3)], some ("octets", (octs (st6 (st6 (st6 (st6 0 f0) f1) f2) f3)).map .int)⟩) := by kernel_rfl
theorem li_2 (f0 f1 f2 f3 f4 f5 f6 f7 : Int) : Qt.go [] [] [] (liT [f0, f1, f2, f3, f4, f5, f6, f7]) = some (((smallI (st6 0 f0) && (smallI (st6 (st6 0 f0) f1) && (smallI (st6 (st6 (st6 0 f0) f1) f2) && (smallI (st6 0 f4) && (smallI (st6 (st6 0 f4) f5) && (smallI (st6 (st6 (st6 0 f4) f5) f6) && true)))))), []), [], [], .next ⟨[("row", .list ([f0, f1, f2, f3, f4, f5, f6, f7].map .int)), ("k", .int 4), ("number", .int (st6 (st6 (st6 (st6 0 f4) f5) f6) f7)), ("figure", .int f7)], some ("octets", (octs (st6 (st6 (st6 (st6 0 f0) f1) f2) f3) ++ octs (st6 (st6 (st6 (st6 0 f4) f5) f6) f7)).map .int)⟩) := by kernel_rfl
theorem li_3 (f0 f1 f2 f3 f4 f5 f6 f7 f8 f9 f10 f11 : Int) : Qt.go [] [] [] (liT [f0, f1, f2, f3, f4, f5, f6, f7, f8, f9, f10, f11]) = some (((smallI (st6 0 f0) && (smallI (st6 (st6 0 f0) f1) && (smallI (st6 (st6 (st6 0 f0) f1) f2) && (smallI (st6 0 f4) && (smallI (st6 (st6 0 f4) f5) && (smallI (st6 (st6 (st6 0 f4) f5) f6) && (smallI (st6 0 f8) && (smallI (st6 (st6 0 f8) f9) && (smallI (st6 (st6 (st6 0 f8) f9) f10) && true))))))))), []), [], [], .next ⟨[("row", .list ([f0, f1, f2, f3, f4, f5, f6, f7, f8, f9, f10, f11].map .int)), ("k", .int 8), ("number", .int (st6 (st6 (st6 (st6 0 f8) f9) f10) f11)), ("figure", .int f11)], some ("octets", (octs (st6 (st6 (st6 (st6 0 f0) f1) f2) f3) ++ octs (st6 (st6 (st6 (st6 0 f4) f5) f6) f7) ++ octs (st6 (st6 (st6 (st6 0 f8) f9) f10) f11)).map .int)⟩) := by kernel_rfl
end Mine
end
/- R13 -/
section
open PySem PySem.W PyProof.Rows
set_option Elab.async false
set_option linter.unusedVariables false
set_option linter.unusedSimpArgs false
namespace Mine
set_option maxRecDepth 100000
theorem not_nat (a : Nat) : Builtin.bitNot (a : Int) < 0 := by unfold Builtin.bitNot; lia
theorem not_not (x : Int) : Builtin.bitNot (Builtin.bitNot x) = x := by unfold Builtin.bitNot; lia
theorem bitOr_nat (a b : Nat) : Builtin.bitOr (a : Int) (b : Int) = ((a ||| b : Nat) : Int) := by
  unfold Builtin.bitOr Builtin.bitAnd
  have h1 : decide (0 ≤ Builtin.bitNot (a : Int)) = false := by have := not_nat a; simp; omega
  have h2 : decide (0 ≤ Builtin.bitNot (b : Int)) = false := by have := not_nat b; simp; omega
  rw [h1, h2]
  simp only [not_not, Int.toNat_natCast]
theorem or_add (a i : Nat) {b : Nat} (h : b < 2 ^ i) : (a * 2 ^ i) ||| b = a * 2 ^ i + b := by
  have := Nat.shiftLeft_add_eq_or_of_lt h a
  rw [Nat.shiftLeft_eq] at this
  exact this.symm
noncomputable def stepN (l b : Nat) : Nat := (l * 256 + b) % 65536
theorem stepL_eq (l : Nat) (o : UInt8) : stepL (l : Int) o = ((stepN l o.toNat : Nat) : Int) := by
  have e : (l : Int) * 2 ^ (8 : Int).toNat = ((l * 2 ^ 8 : Nat) : Int) := by push_cast; rfl
  unfold stepL stepN
  rw [e, bitOr_nat, or_add l 8 o.toNat_lt, bitAnd_m16]
  exact (Int.natCast_emod (l * 256 + o.toNat) 65536).symm
theorem st6_eq (n : Nat) {f : Nat} (h : f < 64) : st6 (n : Int) (f : Int) = ((n * 64 + f : Nat) : Int) := by
  have e : (n : Int) * 2 ^ (6 : Int).toNat = ((n * 2 ^ 6 : Nat) : Int) := by push_cast; rfl
  unfold st6
  rw [e, bitOr_nat, or_add n 6 h]
theorem octs_eq (n : Nat) : octs (n : Int) = [((n / 65536 : Nat) : Int), ((n / 256 % 256 : Nat) : Int), ((n % 256 : Nat) : Int)] := by
  have e1 : (n : Int).fdiv (2 ^ (16 : Int).toNat) = ((n / 65536 : Nat) : Int) := (Int.ofNat_fdiv n 65536).symm
  have e2 : (n : Int).fdiv (2 ^ (8 : Int).toNat) = ((n / 256 : Nat) : Int) := (Int.ofNat_fdiv n 256).symm
  unfold octs
  rw [e1, e2, bitAnd_m8, bitAnd_m8]
  have e3 : ((n / 256 : Nat) : Int) % 256 = ((n / 256 % 256 : Nat) : Int) := (Int.natCast_emod (n / 256) 256).symm
  have e4 : (n : Int) % 256 = ((n % 256 : Nat) : Int) := (Int.natCast_emod n 256).symm
  rw [e3, e4]
noncomputable def al (k : Nat) : Nat := (alphabet.getD k 0).toNat
theorem item_bytes (b : List UInt8) (i : Int) (h : 0 ≤ i ∧ b.length ≤ 1048576) : item (.bytes b) (.int i) = (match b[i.toNat]? with | some x => some (.int x.toNat) | none => none) := if_pos h
theorem al_len : alphabet.length = 64 := by decide +kernel
theorem al_len2 : alphabet.length ≤ 1048576 := by rw [al_len]; decide
theorem al_at {k : Nat} (h : k < 64) : item (.bytes alphabet) (.int (k : Int)) = some (.int ((al k : Nat) : Int)) := by
  have h' : k < alphabet.length := by rw [al_len]; exact h
  rw [item_bytes _ _ ⟨Int.natCast_nonneg k, al_len2⟩, Int.toNat_natCast, List.getElem?_eq_getElem h']
  simp [al, List.getD, List.getElem?_eq_getElem h']
theorem figAt_eq (l : Nat) (n : Nat) : figAt (l : Int) (n : Int) = some ((al (l / 2 ^ n % 64) : Nat) : Int) := by
  have e : (l : Int).fdiv (2 ^ ((n : Int)).toNat) = ((l / 2 ^ n : Nat) : Int) := by
    rw [Int.toNat_natCast]
    have := (Int.ofNat_fdiv l (2 ^ n)).symm
    push_cast at this ⊢
    exact this
  unfold figAt
  rw [e, bitAnd_m6]
  refine itemI_of ?_
  have := al_at (k := l / 2 ^ n % 64) (Nat.mod_lt _ (by decide))
  push_cast at this ⊢
  exact this
/-- three octets of four figures -/
noncomputable def n4 (a b c d : Nat) : Nat := ((a * 64 + b) * 64 + c) * 64 + d
theorem dv (x k r : Nat) (h : r < k) : (x * k + r) / k = x := by
  have h0 : 0 < k := Nat.lt_of_le_of_lt (Nat.zero_le _) h
  rw [Nat.add_comm, Nat.add_mul_div_right _ _ h0, Nat.div_eq_of_lt h, Nat.zero_add]
theorem md (x k r : Nat) (h : r < k) : (x * k + r) % k = r := by
  rw [Nat.add_comm, Nat.add_mul_mod_self_right, Nat.mod_eq_of_lt h]
theorem sl {x k m y a r : Nat} (hk : k * m = 65536) (hm : 64 ∣ m) (e : x = (y * 64 + a) * k + r) (ha : a < 64) (hr : r < k) : x % 65536 / k % 64 = a := by
  rw [← hk, Nat.mod_mul_right_div_self, Nat.mod_mod_of_dvd _ hm, e, dv _ _ _ hr, md _ _ _ ha]
theorem ml {x k y r : Nat} (hk : k ∣ 65536) (e : x = y * k + r) (hr : r < k) : x % 65536 % k = r := by
  rw [Nat.mod_mod_of_dvd _ hk, e, md _ _ _ hr]
theorem n4_eq (a h t m u d : Nat) : n4 a (h * 16 + t) (m * 4 + u) d = ((a * 4 + h) * 256 + (t * 16 + m)) * 256 + (u * 64 + d) := by unfold n4; lia
theorem mk2 {p k q j : Nat} (hp : p < k) (hq : q < j) : p * j + q < k * j := by
  have := Nat.mul_le_mul_right j (Nat.succ_le_of_lt hp)
  rw [Nat.succ_mul] at this
  exact Nat.lt_of_lt_of_le (Nat.add_lt_add_left hq _) this
theorem grpN (l a h t m u d : Nat) (ha : a < 64) (hh : h < 4) (ht : t < 16) (hm : m < 16) (hu : u < 4) (hd : d < 64) {o1 o2 o3 : Nat} (h1 : o1 = n4 a (h * 16 + t) (m * 4 + u) d / 65536) (h2 : o2 = n4 a (h * 16 + t) (m * 4 + u) d / 256 % 256) (h3 : o3 = n4 a (h * 16 + t) (m * 4 + u) d % 256) :
    stepN l o1 / 4 % 64 = a ∧ stepN (stepN l o1) o2 / 16 % 64 = h * 16 + t ∧ stepN (stepN (stepN l o1) o2) o3 / 64 % 64 = m * 4 + u ∧ stepN (stepN (stepN l o1) o2) o3 % 64 = d := by
  have ud : u * 64 + d < 256 := mk2 hu hd
  have tm : t * 16 + m < 256 := mk2 ht hm
  rw [n4_eq, show 65536 = 256 * 256 from rfl, ← Nat.div_div_eq_div_mul, dv _ _ _ ud, dv _ _ _ tm] at h1
  rw [n4_eq, dv _ _ _ ud, md _ _ _ tm] at h2
  rw [n4_eq, md _ _ _ ud] at h3
  subst h1 h2 h3
  have y1 : stepN l (a * 4 + h) % 4 = h := ml (y := l * 64 + a) (by decide) (by lia) hh
  have e1 := Nat.div_add_mod' (stepN l (a * 4 + h)) 4
  rw [y1] at e1
  have y2 : stepN (stepN l (a * 4 + h)) (t * 16 + m) % 16 = m := ml (y := stepN l (a * 4 + h) * 16 + t) (by decide) (by lia) hm
  have e2 := Nat.div_add_mod' (stepN (stepN l (a * 4 + h)) (t * 16 + m)) 16
  rw [y2] at e2
  refine ⟨sl (m := 16384) (y := l) (r := h) rfl (by decide) (by lia) ha hh, sl (m := 4096) (y := stepN l (a * 4 + h) / 4) (r := m) rfl (by decide) ?_ (mk2 hh ht) hm, sl (m := 1024) (y := stepN (stepN l (a * 4 + h)) (t * 16 + m) / 16) (r := d) rfl (by decide) ?_ (mk2 hm hu) hd, ml (y := stepN (stepN l (a * 4 + h)) (t * 16 + m) * 4 + u) (by decide) (by lia) hd⟩
  · generalize stepN l (a * 4 + h) = z at *
    generalize z / 4 = w at *
    subst e1; lia
  · generalize stepN (stepN l (a * 4 + h)) (t * 16 + m) = z at *
    generalize z / 16 = w at *
    subst e2; lia
theorem group (l a b c d : Nat) (ha : a < 64) (hb : b < 64) (hc : c < 64) (hd : d < 64) {o1 o2 o3 : UInt8} (h1 : o1.toNat = n4 a b c d / 65536) (h2 : o2.toNat = n4 a b c d / 256 % 256) (h3 : o3.toNat = n4 a b c d % 256) :
    stepN l o1.toNat / 4 % 64 = a ∧ stepN (stepN l o1.toNat) o2.toNat / 16 % 64 = b ∧ stepN (stepN (stepN l o1.toNat) o2.toNat) o3.toNat / 64 % 64 = c ∧ stepN (stepN (stepN l o1.toNat) o2.toNat) o3.toNat % 64 = d := by
  have := grpN l a (b / 16) (b % 16) (c / 4) (c % 4) d ha (Nat.div_lt_of_lt_mul hb) (Nat.mod_lt _ (by decide)) (Nat.div_lt_of_lt_mul hc) (Nat.mod_lt _ (by decide)) hd (o1 := o1.toNat) (o2 := o2.toNat) (o3 := o3.toNat)
  rw [Nat.div_add_mod', Nat.div_add_mod'] at this
  exact this h1 h2 h3
theorem step_small (l b : Nat) : smallI ((stepN l b : Nat) : Int) = true := by
  have : stepN l b < 65536 := Nat.mod_lt _ (by decide)
  unfold smallI
  rw [Int.natAbs_natCast]
  exact decide_eq_true (Nat.lt_trans this (by decide))
theorem bd {l : List Nat} (hf : ∀ f ∈ l, f < 64) (i : Nat) (h : Nat.blt i l.length = true) : l.getD i 0 < 64 := by
  have h := Nat.blt_eq.mp h
  show (l[i]?).getD 0 < 64
  rw [List.getElem?_eq_getElem h]; exact hf _ (List.getElem_mem h)
theorem al_byte : ∀ k, k < 64 → al k < 256 ∧ markTab.getD (al k) (al k).toUInt8 = (sgOf k).toUInt8 ∧ (al k).toUInt8.toNat = al k ∧ (sgOf k).toUInt8.toNat = sgOf k ∧ sgOf k < 128 := by decide +kernel
theorem inB_of : ∀ (fs : List Nat), (∀ f ∈ fs, f < 64) → inB (fs.map fun f => ((al f : Nat) : Int)) = true
  | [], _ => rfl
  | f :: r, h => by
    have ih := inB_of r fun x hx => h x (List.mem_cons_of_mem _ hx)
    have := (al_byte f (h f (List.mem_cons_self ..))).1
    unfold inB at ih ⊢
    simp only [List.map_cons, List.all_cons, ih, Bool.and_true, decide_eq_true_eq]
    lia
theorem outB_eq : ∀ (fs : List Nat), outB (fs.map fun f => ((al f : Nat) : Int)) = fs.map fun f => (al f).toUInt8
  | [] => rfl
  | f :: r => by
    have := outB_eq r
    unfold outB at this ⊢
    simp only [List.map_cons, this, Int.toNat_natCast]
theorem marked_eq (b : List UInt8) : (marked b.toArray).toList = b.map fun c => markTab.getD c.toNat c := by
  unfold marked
  simp
  rw [List.filter_eq_self.mpr fun _ _ => rfl]
theorem marked_al (fs : List Nat) (h : ∀ f ∈ fs, f < 64) : (marked (fs.map fun f => (al f).toUInt8).toArray).toList = fs.map fun f => (sgOf f).toUInt8 := by
  rw [marked_eq, List.map_map]
  refine List.map_congr_left fun f hf => ?_
  obtain ⟨h1, h2, h3, h4⟩ := al_byte f (h f hf)
  show markTab.getD ((al f).toUInt8.toNat) (al f).toUInt8 = _
  rw [h3]
  exact h2
/-- the octets of a row of figures -/
noncomputable def octB : List Nat → List UInt8
  | a :: b :: c :: d :: r => (n4 a b c d / 65536).toUInt8 :: (n4 a b c d / 256 % 256).toUInt8 :: (n4 a b c d % 256).toUInt8 :: octB r
  | _ => []
theorem n4_lt {a b c d : Nat} (ha : a < 64) (hb : b < 64) (hc : c < 64) (hd : d < 64) : n4 a b c d < 16777216 := by unfold n4; lia
theorem u8 {n : Nat} (h : n < 256) : n.toUInt8.toNat = n := by simp; omega
theorem group' (l a b c d : Nat) (ha : a < 64) (hb : b < 64) (hc : c < 64) (hd : d < 64) :
    figAt (stepL (l : Int) (n4 a b c d / 65536).toUInt8) 2 = some ((al a : Nat) : Int) ∧ figAt (stepL (stepL (l : Int) (n4 a b c d / 65536).toUInt8) (n4 a b c d / 256 % 256).toUInt8) 4 = some ((al b : Nat) : Int) ∧
    figAt (stepL (stepL (stepL (l : Int) (n4 a b c d / 65536).toUInt8) (n4 a b c d / 256 % 256).toUInt8) (n4 a b c d % 256).toUInt8) 6 = some ((al c : Nat) : Int) ∧
    figAt (stepL (stepL (stepL (l : Int) (n4 a b c d / 65536).toUInt8) (n4 a b c d / 256 % 256).toUInt8) (n4 a b c d % 256).toUInt8) 0 = some ((al d : Nat) : Int) := by
  have hn := n4_lt ha hb hc hd
  obtain ⟨g1, g2, g3, g4⟩ := group l a b c d ha hb hc hd (u8 (n := n4 a b c d / 65536) (by lia)) (u8 (n := n4 a b c d / 256 % 256) (by lia)) (u8 (n := n4 a b c d % 256) (by lia))
  rw [stepL_eq, stepL_eq, stepL_eq]
  refine ⟨?_, ?_, ?_, ?_⟩
  · exact (figAt_eq _ 2).trans (by rw [show (2 : Nat) ^ 2 = 4 from rfl, g1])
  · exact (figAt_eq _ 4).trans (by rw [show (2 : Nat) ^ 4 = 16 from rfl, g2])
  · exact (figAt_eq _ 6).trans (by rw [show (2 : Nat) ^ 6 = 64 from rfl, g3])
  · exact (figAt_eq _ 0).trans (by rw [show (2 : Nat) ^ 0 = 1 from rfl, Nat.div_one, g4])
theorem ba_of {b : List UInt8} {o : AV} (h : exs T0 baF.fd.scope 70 baF.body (baL b) = some (.ret o)) : baK b = some o := by
  unfold baK; rw [h]; rfl
theorem ba_run {b : List UInt8} {xs : List Int} {nd : Bool} {bs cs : List Bool} {os : List (Option Int)} (h : Qt.go bs xs [] (baT b) = some ((nd, cs), os, [], .ret (.bytes (outB xs)))) (hn : nd = true) (hc : cs = bs) (ho : os = xs.map some) : baK b = some (.bytes (outB xs)) :=
  ba_of (exs_go h hn hc ho rfl)
theorem small_L (l : Nat) (o : UInt8) : smallI (stepL (l : Int) o) = true := by rw [stepL_eq]; exact step_small _ _
theorem stepL_nat (l : Nat) (o : UInt8) : ∃ m : Nat, stepL (l : Int) o = (m : Int) := ⟨_, stepL_eq l o⟩
theorem be_of {fs : List Nat} {o : List UInt8} (h : baK o = some (.bytes (outB (fs.map fun f => ((al f : Nat) : Int))))) (hl : fs.length ≤ 12) (hf : ∀ f ∈ fs, f < 64) : beK [.bytes o, .bytes [39, 34]] = some (.bytes (fs.map fun f => (sgOf f).toUInt8)) := by
  have e : (fs.map fun f => (al f).toUInt8).length ≤ 1048576 := Nat.le_trans (by simp; exact hl) (by decide)
  show (if ([39, 34] : List UInt8) = [39, 34] then (baK o).bind fun v => (bytesOf v).bind fun e => if e.length ≤ 1048576 then some (AV.bytes (marked e.toArray).toList) else none else none) = _
  rw [if_pos rfl, h]
  show (if (outB (fs.map fun f => ((al f : Nat) : Int))).length ≤ 1048576 then some (AV.bytes (marked (outB (fs.map fun f => ((al f : Nat) : Int))).toArray).toList) else none) = _
  rw [outB_eq, if_pos e, marked_al fs hf]
theorem grp (L : Int) (l : Nat) (e : L = (l : Int)) (a b c d : Nat) (ha : a < 64) (hb : b < 64) (hc : c < 64) (hd : d < 64) :
    (∃ m : Nat, stepL (stepL (stepL L (n4 a b c d / 65536).toUInt8) (n4 a b c d / 256 % 256).toUInt8) (n4 a b c d % 256).toUInt8 = (m : Int)) ∧
    smallI (stepL L (n4 a b c d / 65536).toUInt8) = true ∧ smallI (stepL (stepL L (n4 a b c d / 65536).toUInt8) (n4 a b c d / 256 % 256).toUInt8) = true ∧ smallI (stepL (stepL (stepL L (n4 a b c d / 65536).toUInt8) (n4 a b c d / 256 % 256).toUInt8) (n4 a b c d % 256).toUInt8) = true ∧
    figAt (stepL L (n4 a b c d / 65536).toUInt8) 2 = some ((al a : Nat) : Int) ∧ figAt (stepL (stepL L (n4 a b c d / 65536).toUInt8) (n4 a b c d / 256 % 256).toUInt8) 4 = some ((al b : Nat) : Int) ∧
    figAt (stepL (stepL (stepL L (n4 a b c d / 65536).toUInt8) (n4 a b c d / 256 % 256).toUInt8) (n4 a b c d % 256).toUInt8) 6 = some ((al c : Nat) : Int) ∧
    figAt (stepL (stepL (stepL L (n4 a b c d / 65536).toUInt8) (n4 a b c d / 256 % 256).toUInt8) (n4 a b c d % 256).toUInt8) 0 = some ((al d : Nat) : Int) := by
  subst e
  obtain ⟨g1, g2, g3, g4⟩ := group' l a b c d ha hb hc hd
  obtain ⟨m1, e1⟩ := stepL_nat l (n4 a b c d / 65536).toUInt8
  obtain ⟨m2, e2⟩ := stepL_nat m1 (n4 a b c d / 256 % 256).toUInt8
  obtain ⟨m3, e3⟩ := stepL_nat m2 (n4 a b c d % 256).toUInt8
  have k1 := small_L l (n4 a b c d / 65536).toUInt8
  have k2 := small_L m1 (n4 a b c d / 256 % 256).toUInt8
  have k3 := small_L m2 (n4 a b c d % 256).toUInt8
  rw [← e1] at k2 e2
  rw [← e2] at k3 e3
  exact ⟨⟨m3, e3⟩, k1, k2, k3, g1, g2, g3, g4⟩
theorem consEq {α : Type} {a b : α} {l r : List α} (h : a = b) (t : l = r) : a :: l = b :: r := by rw [h, t]
theorem be_4 {a b c d : Nat} (hf : ∀ x ∈ [a, b, c, d], x < 64) : baK (octB [a, b, c, d]) = some (.bytes (outB ([a, b, c, d].map fun f => ((al f : Nat) : Int)))) := by
  obtain ⟨⟨m0, e0⟩, p0, q0, r0, g0a, g0b, g0c, g0d⟩ := grp ((0 : Nat) : Int) 0 rfl a b c d (bd hf 0 rfl : _) (bd hf 1 rfl : _) (bd hf 2 rfl : _) (bd hf 3 rfl : _)
  have hi := inB_of _ hf
  exact ba_run (ba_1 _ _ _ ((al a : Nat) : Int) ((al b : Nat) : Int) ((al c : Nat) : Int) ((al d : Nat) : Int)) (Bool.and_eq_true_iff.mpr ⟨p0, Bool.and_eq_true_iff.mpr ⟨q0, Bool.and_eq_true_iff.mpr ⟨hi, rfl⟩⟩⟩) rfl (consEq g0a (consEq g0b (consEq g0c (consEq g0d rfl))))
theorem be_8 {a b c d e f g h : Nat} (hf : ∀ x ∈ [a, b, c, d, e, f, g, h], x < 64) : baK (octB [a, b, c, d, e, f, g, h]) = some (.bytes (outB ([a, b, c, d, e, f, g, h].map fun f => ((al f : Nat) : Int)))) := by
  obtain ⟨⟨m0, e0⟩, p0, q0, r0, g0a, g0b, g0c, g0d⟩ := grp ((0 : Nat) : Int) 0 rfl a b c d (bd hf 0 rfl : _) (bd hf 1 rfl : _) (bd hf 2 rfl : _) (bd hf 3 rfl : _)
  obtain ⟨⟨m1, e1⟩, p1, q1, r1, g1a, g1b, g1c, g1d⟩ := grp _ m0 e0 e f g h (bd hf 4 rfl : _) (bd hf 5 rfl : _) (bd hf 6 rfl : _) (bd hf 7 rfl : _)
  have hi := inB_of _ hf
  exact ba_run (ba_2 _ _ _ _ _ _ ((al a : Nat) : Int) ((al b : Nat) : Int) ((al c : Nat) : Int) ((al d : Nat) : Int) ((al e : Nat) : Int) ((al f : Nat) : Int) ((al g : Nat) : Int) ((al h : Nat) : Int)) (Bool.and_eq_true_iff.mpr ⟨p0, Bool.and_eq_true_iff.mpr ⟨q0, Bool.and_eq_true_iff.mpr ⟨r0, Bool.and_eq_true_iff.mpr ⟨p1, Bool.and_eq_true_iff.mpr ⟨q1, Bool.and_eq_true_iff.mpr ⟨hi, rfl⟩⟩⟩⟩⟩⟩) rfl (consEq g0a (consEq g0b (consEq g0c (consEq g0d (consEq g1a (consEq g1b (consEq g1c (consEq g1d rfl))))))))
theorem be_12 {a b c d e f g h i j k l : Nat} (hf : ∀ x ∈ [a, b, c, d, e, f, g, h, i, j, k, l], x < 64) : baK (octB [a, b, c, d, e, f, g, h, i, j, k, l]) = some (.bytes (outB ([a, b, c, d, e, f, g, h, i, j, k, l].map fun f => ((al f : Nat) : Int)))) := by
  obtain ⟨⟨m0, e0⟩, p0, q0, r0, g0a, g0b, g0c, g0d⟩ := grp ((0 : Nat) : Int) 0 rfl a b c d (bd hf 0 rfl : _) (bd hf 1 rfl : _) (bd hf 2 rfl : _) (bd hf 3 rfl : _)
  obtain ⟨⟨m1, e1⟩, p1, q1, r1, g1a, g1b, g1c, g1d⟩ := grp _ m0 e0 e f g h (bd hf 4 rfl : _) (bd hf 5 rfl : _) (bd hf 6 rfl : _) (bd hf 7 rfl : _)
  obtain ⟨⟨m2, e2⟩, p2, q2, r2, g2a, g2b, g2c, g2d⟩ := grp _ m1 e1 i j k l (bd hf 8 rfl : _) (bd hf 9 rfl : _) (bd hf 10 rfl : _) (bd hf 11 rfl : _)
  have hi := inB_of _ hf
  exact ba_run (ba_3 _ _ _ _ _ _ _ _ _ ((al a : Nat) : Int) ((al b : Nat) : Int) ((al c : Nat) : Int) ((al d : Nat) : Int) ((al e : Nat) : Int) ((al f : Nat) : Int) ((al g : Nat) : Int) ((al h : Nat) : Int) ((al i : Nat) : Int) ((al j : Nat) : Int) ((al k : Nat) : Int) ((al l : Nat) : Int)) (Bool.and_eq_true_iff.mpr ⟨p0, Bool.and_eq_true_iff.mpr ⟨q0, Bool.and_eq_true_iff.mpr ⟨r0, Bool.and_eq_true_iff.mpr ⟨p1, Bool.and_eq_true_iff.mpr ⟨q1, Bool.and_eq_true_iff.mpr ⟨r1, Bool.and_eq_true_iff.mpr ⟨p2, Bool.and_eq_true_iff.mpr ⟨q2, Bool.and_eq_true_iff.mpr ⟨hi, rfl⟩⟩⟩⟩⟩⟩⟩⟩⟩) rfl (consEq g0a (consEq g0b (consEq g0c (consEq g0d (consEq g1a (consEq g1b (consEq g1c (consEq g1d (consEq g2a (consEq g2b (consEq g2c (consEq g2d rfl))))))))))))
end Mine
end
/- R14 -/
section
open PySem PySem.W PyProof.Rows
set_option Elab.async false
set_option linter.unusedVariables false
set_option linter.unusedSimpArgs false
namespace Mine
set_option maxRecDepth 100000
noncomputable def octI : List Nat → List Int
  | a :: b :: c :: d :: r => ((n4 a b c d / 65536 : Nat) : Int) :: ((n4 a b c d / 256 % 256 : Nat) : Int) :: ((n4 a b c d % 256 : Nat) : Int) :: octI r
  | _ => []
theorem small_nat {n : Nat} (h : n < 16777216) : smallI (n : Int) = true := by
  unfold smallI
  rw [Int.natAbs_natCast]
  exact decide_eq_true (Nat.lt_trans h (by decide))
theorem st4 {a b c d : Nat} (ha : a < 64) (hb : b < 64) (hc : c < 64) (hd : d < 64) : smallI (st6 0 (a : Int)) = true ∧ smallI (st6 (st6 0 (a : Int)) (b : Int)) = true ∧ smallI (st6 (st6 (st6 0 (a : Int)) (b : Int)) (c : Int)) = true ∧
    octs (st6 (st6 (st6 (st6 0 (a : Int)) (b : Int)) (c : Int)) (d : Int)) = octI [a, b, c, d] := by
  have e1 : st6 0 (a : Int) = ((a : Nat) : Int) := by have := st6_eq 0 ha; simpa using this
  have e2 : st6 (st6 0 (a : Int)) (b : Int) = ((a * 64 + b : Nat) : Int) := by rw [e1]; exact st6_eq a hb
  have e3 : st6 (st6 (st6 0 (a : Int)) (b : Int)) (c : Int) = (((a * 64 + b) * 64 + c : Nat) : Int) := by rw [e2]; exact st6_eq _ hc
  have e4 : st6 (st6 (st6 (st6 0 (a : Int)) (b : Int)) (c : Int)) (d : Int) = ((n4 a b c d : Nat) : Int) := by rw [e3]; exact st6_eq _ hd
  rw [e1]
  rw [e1] at e2 e3 e4
  rw [e2] at e3 e4 ⊢
  rw [e3] at e4 ⊢
  rw [e4]
  exact ⟨small_nat (by lia), small_nat (by lia), small_nat (by lia), octs_eq _⟩
theorem octI_ok : ∀ {fs : List Nat}, (∀ f ∈ fs, f < 64) → (octI fs).all (fun n => decide (0 ≤ n ∧ n < 256)) = true ∧ (octI fs).map (fun n => n.toNat.toUInt8) = octB fs
  | [], _ => ⟨rfl, rfl⟩
  | [_], _ => ⟨rfl, rfl⟩
  | [_, _], _ => ⟨rfl, rfl⟩
  | [_, _, _], _ => ⟨rfl, rfl⟩
  | a :: b :: c :: d :: r, h => by
    obtain ⟨h1, h2⟩ := octI_ok (fs := r) fun x hx => h x (List.mem_cons_of_mem _ (List.mem_cons_of_mem _ (List.mem_cons_of_mem _ (List.mem_cons_of_mem _ hx))))
    have hn := n4_lt (h a (by simp)) (h b (by simp)) (h c (by simp)) (h d (by simp))
    constructor
    · simp only [octI, List.all_cons, h1, Bool.and_true, Bool.and_eq_true, decide_eq_true_eq]
      refine ⟨⟨by lia, by lia⟩, ⟨by lia, by lia⟩, by lia, by lia⟩
    · simp only [octI, octB, List.map_cons, h2, Int.toNat_natCast]
/-- what the first two statements of _law_line leave -/
noncomputable def LineOk (fs : List Nat) : Prop := ∃ l, exs TW liF.fd.scope 70 (liF.body.take 2) ⟨(liF.ps.zip [.list (avs fs)]).reverse, none⟩ = some (.next ⟨l, some (Str.ofString "octets", (octI fs).map .int)⟩)
theorem line_of {fs : List Nat} {nd : Bool} {l : List (Str × AV)} {xs : List Int} (h : Qt.go [] [] [] (liT (fs.map fun f => ((f : Nat) : Int))) = some ((nd, []), [], [], .next ⟨l, some (Str.ofString "octets", xs.map .int)⟩)) (hn : nd = true) (hx : xs = octI fs) : LineOk fs := by
  have e : avs fs = (fs.map fun f => ((f : Nat) : Int)).map .int := by simp [avs]
  have h' : Qt.go [] [] [] (exsT TW liF.fd.scope 70 (liF.body.take 2) ⟨(liF.ps.zip [.list (avs fs)]).reverse, none⟩ .done) = some ((nd, []), [], [], .next ⟨l, some (Str.ofString "octets", xs.map .int)⟩) := by rw [e]; exact h
  have h1 := exs_go h' hn rfl rfl rfl
  rw [hx] at h1
  exact ⟨l, h1⟩
theorem line_4 {a b c d : Nat} (hf : ∀ x ∈ [a, b, c, d], x < 64) : LineOk [a, b, c, d] := by
  obtain ⟨p0, q0, r0, o0⟩ := st4 (a := a) (b := b) (c := c) (d := d) (bd hf 0 rfl : _) (bd hf 1 rfl : _) (bd hf 2 rfl : _) (bd hf 3 rfl : _)
  refine line_of (li_1 ((a : Nat) : Int) ((b : Nat) : Int) ((c : Nat) : Int) ((d : Nat) : Int)) (Bool.and_eq_true_iff.mpr ⟨p0, Bool.and_eq_true_iff.mpr ⟨q0, Bool.and_eq_true_iff.mpr ⟨r0, rfl⟩⟩⟩) ?_
  rw [o0]
theorem line_8 {a b c d e f g h : Nat} (hf : ∀ x ∈ [a, b, c, d, e, f, g, h], x < 64) : LineOk [a, b, c, d, e, f, g, h] := by
  obtain ⟨p0, q0, r0, o0⟩ := st4 (a := a) (b := b) (c := c) (d := d) (bd hf 0 rfl : _) (bd hf 1 rfl : _) (bd hf 2 rfl : _) (bd hf 3 rfl : _)
  obtain ⟨p1, q1, r1, o1⟩ := st4 (a := e) (b := f) (c := g) (d := h) (bd hf 4 rfl : _) (bd hf 5 rfl : _) (bd hf 6 rfl : _) (bd hf 7 rfl : _)
  refine line_of (li_2 ((a : Nat) : Int) ((b : Nat) : Int) ((c : Nat) : Int) ((d : Nat) : Int) ((e : Nat) : Int) ((f : Nat) : Int) ((g : Nat) : Int) ((h : Nat) : Int)) (Bool.and_eq_true_iff.mpr ⟨p0, Bool.and_eq_true_iff.mpr ⟨q0, Bool.and_eq_true_iff.mpr ⟨r0, Bool.and_eq_true_iff.mpr ⟨p1, Bool.and_eq_true_iff.mpr ⟨q1, Bool.and_eq_true_iff.mpr ⟨r1, rfl⟩⟩⟩⟩⟩⟩) ?_
  rw [o0, o1]
  rfl
theorem line_12 {a b c d e f g h i j k l : Nat} (hf : ∀ x ∈ [a, b, c, d, e, f, g, h, i, j, k, l], x < 64) : LineOk [a, b, c, d, e, f, g, h, i, j, k, l] := by
  obtain ⟨p0, q0, r0, o0⟩ := st4 (a := a) (b := b) (c := c) (d := d) (bd hf 0 rfl : _) (bd hf 1 rfl : _) (bd hf 2 rfl : _) (bd hf 3 rfl : _)
  obtain ⟨p1, q1, r1, o1⟩ := st4 (a := e) (b := f) (c := g) (d := h) (bd hf 4 rfl : _) (bd hf 5 rfl : _) (bd hf 6 rfl : _) (bd hf 7 rfl : _)
  obtain ⟨p2, q2, r2, o2⟩ := st4 (a := i) (b := j) (c := k) (d := l) (bd hf 8 rfl : _) (bd hf 9 rfl : _) (bd hf 10 rfl : _) (bd hf 11 rfl : _)
  refine line_of (li_3 ((a : Nat) : Int) ((b : Nat) : Int) ((c : Nat) : Int) ((d : Nat) : Int) ((e : Nat) : Int) ((f : Nat) : Int) ((g : Nat) : Int) ((h : Nat) : Int) ((i : Nat) : Int) ((j : Nat) : Int) ((k : Nat) : Int) ((l : Nat) : Int)) (Bool.and_eq_true_iff.mpr ⟨p0, Bool.and_eq_true_iff.mpr ⟨q0, Bool.and_eq_true_iff.mpr ⟨r0, Bool.and_eq_true_iff.mpr ⟨p1, Bool.and_eq_true_iff.mpr ⟨q1, Bool.and_eq_true_iff.mpr ⟨r1, Bool.and_eq_true_iff.mpr ⟨p2, Bool.and_eq_true_iff.mpr ⟨q2, Bool.and_eq_true_iff.mpr ⟨r2, rfl⟩⟩⟩⟩⟩⟩⟩⟩⟩) ?_
  rw [o0, o1, o2]
  rfl
theorem line_ok {fs : List Nat} (hl : fs.length = 4 ∨ fs.length = 8 ∨ fs.length = 12) (hf : ∀ f ∈ fs, f < 64) : LineOk fs ∧ beK [.bytes (octB fs), .bytes [39, 34]] = some (.bytes (fs.map fun f => (sgOf f).toUInt8)) := by
  exact LenOk.rows (P := fun fs => (∀ f ∈ fs, f < 64) → LineOk fs ∧ beK [.bytes (octB fs), .bytes [39, 34]] = some (.bytes (fs.map fun f => (sgOf f).toUInt8)))
    (fun _ _ _ _ hf => ⟨line_4 hf, be_of (be_4 hf) (Nat.le_of_ble_eq_true rfl) hf⟩) (fun _ _ _ _ _ _ _ _ hf => ⟨line_8 hf, be_of (be_8 hf) (Nat.le_of_ble_eq_true rfl) hf⟩)
    (fun _ _ _ _ _ _ _ _ _ _ _ _ hf => ⟨line_12 hf, be_of (be_12 hf) (Nat.le_of_ble_eq_true rfl) hf⟩) hl hf
end Mine
end
/- R5 -/
section
open PySem PySem.W PyProof.Rows PySem.Calls
set_option Elab.async false
set_option linter.unusedVariables false
set_option linter.unusedSimpArgs false
namespace Mine
set_option maxRecDepth 100000
theorem be_shape1 : ∃ p1 p2 p3 p4 p5 p6 p7, beF.body.take 1 = [.Assign [.Name "encoded" p1] (.Call (.Name "b2a_base64" p2) [.Name "s" p3] [⟨some (Str.ofString "newline"), .Constant (.bool false) 0 p4, p5⟩] p6) p7] := ⟨_, _, _, _, _, _, _, rfl⟩
theorem be_shape2 : ∃ p8 p9 p10 p11 p12 p13 p14 p15 msg p16 p17 p18 p19 p20 p21 p22 p23 p24 p25 els p26 rest, beF.body.drop 1 = [.If (.Compare (.Name "altchars" p8) [.IsNot] [.Constant .none 0 p9] p10) [.Assert (.Compare (.Call (.Name "len" p11) [.Name "altchars" p12] [] p13) [.Eq] [.Constant (.int 2) 0 p14] p15) msg p16,
      .Return (some (.Call (.Attribute (.Name "encoded" p17) "translate" p18) [.Call (.Attribute (.Name "bytes" p19) "maketrans" p20) [.Constant (.bytes [43, 47]) 0 p21, .Name "altchars" p22] [] p23] [] p24)) p25] els p26, rest] ∧ (p18.endLine == p24.line) = true ∧ (p20.endLine == p23.line) = true :=
  ⟨_, _, _, _, _, _, _, _, _, _, _, _, _, _, _, _, _, _, _, _, _, _, rfl, rfl, rfl⟩
theorem ty_bytes : typeOf (.type "bytes") = pure (.type "type") := by kernel_rfl
theorem find_mt : findCls [] (.type "bytes") (.type "type") (Str.ofString "maketrans") = some (.val (.builtin "bytes.maketrans")) := by kernel_rfl
theorem check_mt (a b : Value) : checkBuiltinCall "bytes.maketrans" ⟨[a, b], []⟩ = pure () := by kernel_rfl
section
variable {prog : Program} {w : World}
theorem method_type0 {T : String} {name : Str} {v : Value} {A : Around} {E : Value → Shared → Prop} {s : Shared} {pl : Sem Bool} {Q : Value × List Value → Shared → Prop} (ht : typeOf (.type T) = pure (.type "type")) (hs : Manifest.isStub T = false)
    (e : findCls [] (.type T) (.type "type") name = some (.val v)) (hh : handedIn v = true) (h : Q (v, []) { s with toks := s.toks + 1 }) : wpAny (model prog w) A (getMethod (.type T) name pl) Q E s := by
  have X : Frag.In [] s.heap := fun _ _ h => by cases h
  have hstub : opaqueClassAbove (.type T) = pure none := by unfold opaqueClassAbove; dsimp only; rw [hs]; rfl
  have L0 : Looks (model prog w) s.heap (typeOf (.type T)) (.type "type") := Looks.of_pure ht
  have hg : findIn [] (.type "type") "__getattribute__" = some (some (.builtin "type.__getattribute__")) := type_tga
  unfold getMethod specialOf
  refine wpAny_bind (wpAny_bind (L0.here ((looks_findIn X hg).here ?_)))
  dsimp only
  rw [if_pos canon_tga]
  refine wpAny_bind (wpAny_mono (Q := fun v => Q (v, [])) (E := E) ?_ (fun _ _ z => wpAny_pure z) fun _ _ z => z)
  have LO : Looks (model prog w) s.heap (opaqueClassAbove (.type T)) none := Looks.of_pure hstub
  refine cls_open X LO L0 hg (looks_hook X (r := none) (by rfl)) (by show subIn [] _ _ = _; rfl) e
    (wpAny_pure (by show wpAny _ _ (handedOut v) _ _ _; rw [handedOut_of hh]; exact wpAny_pure h))
theorem gm_translate {M : Model} {A : Around} {E : Value → Shared → Prop} {s : Shared} {ar : Array UInt8} {tt : Tok} {pl : Sem Bool} {Q : Value × List Value → Shared → Prop} (h : Q (.builtin "bytes.translate", [.bytes ar tt]) s) :
    wpAny M A (getMethod (.bytes ar tt) (Str.ofString "translate") pl) Q E s :=
  PySem.getMethod_builtin (Q := Q) (name := Str.ofString "translate") (v := .bytes ar tt) (T := "bytes") (id := "bytes.translate") (typeIs_bytes _ _ _) FB.plainAttrs_bytes slot_translate type_translate (fun a q => by cases q) h
theorem gm_maketrans {A : Around} {E : Value → Shared → Prop} {s : Shared} {pl : Sem Bool} {Q : Value × List Value → Shared → Prop} (h : Q (.builtin "bytes.maketrans", []) { s with toks := s.toks + 1 }) :
    wpAny (model prog w) A (getMethod (.type "bytes") (Str.ofString "maketrans") pl) Q E s :=
  method_type0 (T := "bytes") (Q := Q) (name := Str.ofString "maketrans") (v := .builtin "bytes.maketrans") ty_bytes (by decide +kernel) find_mt (by decide +kernel) h
theorem call_maketrans {A : Around} {E : Value → Shared → Prop} {s : Shared} {t u : Tok} {Q : Value → Shared → Prop} (h : Q (.bytes markTab s.toks) { s with toks := s.toks + 1 }) :
    wpAny (model prog w) A (call (.builtin "bytes.maketrans") [.bytes #[43, 47] t, .bytes #[39, 34] u]) Q E s := by
  refine wpAny_call (codeAny_call_builtin (by decide +kernel) entry_maketrans ?_)
  rw [check_mt]
  refine wpAny_pure ?_
  rw [maketrans_eq]
  refine wpAny_bind (wpAny_mkBytes (hb := by rw [sizeLine_eq]; decide +kernel) ?_)
  exact wpAny_pure h
end
noncomputable def beG (e : List UInt8) : FS := ⟨[(Str.ofString "encoded", .bytes e), (Str.ofString "altchars", .bytes [39, 34])], none⟩
theorem beG_get (e : List UInt8) : (beG e).get (Str.ofString "encoded") = some (.bytes e) ∧ (beG e).get (Str.ofString "altchars") = some (.bytes [39, 34]) := ⟨by kernel_rfl, by kernel_rfl⟩
theorem be_sub (b e : List UInt8) : Sub (beG e) ((⟨([Str.ofString "s", Str.ofString "altchars"].zip [AV.bytes b, .bytes [39, 34]]).reverse, none⟩ : FS).set (Str.ofString "encoded") (.bytes e)) := by
  have h1 : ((⟨([Str.ofString "s", Str.ofString "altchars"].zip [AV.bytes b, .bytes [39, 34]]).reverse, none⟩ : FS).set (Str.ofString "encoded") (.bytes e)).l.lookup (Str.ofString "encoded") = some (.bytes e) := by kernel_rfl
  have h2 : ((⟨([Str.ofString "s", Str.ofString "altchars"].zip [AV.bytes b, .bytes [39, 34]]).reverse, none⟩ : FS).set (Str.ofString "encoded") (.bytes e)).l.lookup (Str.ofString "altchars") = some (.bytes [39, 34]) := by kernel_rfl
  exact Sub.of_cons h1 (Sub.of_cons h2 (Sub.of_nil rfl))
theorem be_loc : ∀ p ∈ [Str.ofString "s", Str.ofString "altchars"], beF.fd.scope.names.lookup p = some .local := by decide +kernel
theorem arr_eq {a : Array UInt8} {l : List UInt8} (h : l = a.toList) : a = l.toArray := by rw [h]
section
variable {prog : Program} {w : World} {g : Heap} {A : Around} {env : Env} {hid : List Addr} {L : Addr} {s : Shared} {E : Value → Shared → Prop}
/-- encoded.translate(bytes.maketrans(b'+/', marks)) -/
theorem be_last (Fd : Found w g) {e : List UInt8} (hle : e.length ≤ 1048576) (ei : EnvIs env beF.fd.scope L) (F : FrameAt g hid L none (beG e) s.heap) {p17 p18 p19 p20 p21 p22 p23 p24 : Pos} (hl1 : (p18.endLine == p24.line) = true) (hl2 : (p20.endLine == p23.line) = true) {Q : Value → Shared → Prop} (hQ : ∀ t s', Keeps s s' → Q (.bytes (marked e.toArray) t) s') :
    wpAny (model prog w) A (eval (.Call (.Attribute (.Name "encoded" p17) "translate" p18) [.Call (.Attribute (.Name "bytes" p19) "maketrans" p20) [.Constant (.bytes [43, 47]) 0 p21, .Name "altchars" p22] [] p23] [] p24) env) Q E s := by
  obtain ⟨m, mb, hg, hbn, hfn, hbl, _⟩ := Fd.names
  have hby : m (Str.ofString "bytes") = none ∧ mb (Str.ofString "bytes") = some (.type "bytes") := hbl (Str.ofString "bytes", .type "bytes") (by decide +kernel)
  obtain ⟨n1, n2, n3, n4, n5, n6⟩ := be_names
  refine MethodCallG rfl rfl (by simp) hl1 (wpAny_mono (name_ok (f := beG e) n3 (beG_get e).1 ei F.toFrameW (by decide +kernel)) (fun v1 s1 h1 pl => ?_) fun _ _ z => z)
  obtain ⟨k1, d1⟩ := h1
  obtain ⟨ar, tt, rfl, he⟩ := d1.inv_bytes
  cases arr_eq he
  have F1 := F.ex k1
  refine gm_translate (callWith_method1 (args_cons (MethodCallG rfl rfl (by simp) hl2 (nameG_ok n6 (by decide +kernel) hg hbn (.inr hby) ei F1.top fun pl => gm_maketrans ?_)) rfl))
  have k2 : Keeps s1 { s1 with toks := s1.toks + 1 } := ⟨_, _, rfl, fun _ _ e => e⟩
  refine callWith_method1 (args_cons (wpAny_mono (const_ok (hid := []) (r := .bytes [43, 47]) rfl) (fun v3 s3 h3 => ?_) fun _ _ z => z) rfl)
  obtain ⟨k3, d3⟩ := h3
  obtain ⟨a3, t3, rfl, e3⟩ := d3.inv_bytes
  cases arr_eq e3
  have k13 := kp_trans k2 k3
  refine args_cons (wpAny_mono (name_ok (f := beG e) n2 (beG_get e).2 ei (F1.ex k13).toFrameW (by decide +kernel)) (fun v4 s4 h4 => ?_) fun _ _ z => z) rfl
  obtain ⟨k4, d4⟩ := h4
  obtain ⟨a4, t4, rfl, e4⟩ := d4.inv_bytes
  cases arr_eq e4
  refine args_nil (call_maketrans (args_nil ?_))
  show wpAny _ _ (call (.builtin "bytes.translate") [.bytes e.toArray tt, .bytes markTab s4.toks]) _ _ _
  refine call_translate (by simpa using hle) fun t' k' => ?_
  exact hQ t' _ (kp_trans k1 (kp_trans k13 (kp_trans k4 ⟨_, _, rfl, fun _ _ e => e⟩)))
/-- what follows the first statement of b64encode -/
theorem be_rest (Fd : Found w g) (lim : g.NoLimit) (c : Cx A 70) {e : List UInt8} (hle : e.length ≤ 1048576) (ei : EnvIs env beF.fd.scope L) (F : FrameAt g hid L none (beG e) s.heap) {Q : Flow → Shared → Prop} (hQ : ∀ t s', Keeps s s' → Q (.ret (.bytes (marked e.toArray) t)) s') :
    wpAny (model prog w) A (execs (beF.body.drop 1) env) Q E s := by
  obtain ⟨p8, p9, p10, p11, p12, p13, p14, p15, msg, p16, p17, p18, p19, p20, p21, p22, p23, p24, p25, els, p26, rest, hb, hl1, hl2⟩ := be_shape2
  rw [hb]
  clear hb
  have ok := allOk (prog := prog) (topIs (nat := noNat) Fd lim) (nat0 Fd) 70 70 (Nat.le_refl _)
  refine wpAny_execs_cons (wpAny_If (wpAny_mono (ok.tr beF.fd.scope (.Compare (.Name "altchars" p8) [.IsNot] [.Constant .none 0 p9] p10) (beG e) true (by kernel_rfl) _ _ _ _ none _ _ c ei F.toFrameW) (fun v5 s5 h5 => ?_) fun _ _ z => z))
  obtain ⟨rfl, k5⟩ := h5
  have F5 := F.ex k5
  rw [if_pos rfl]
  refine wpAny_execs_cons (wpAny_Assert_holds (wpAny_mono (ok.tr beF.fd.scope (.Compare (.Call (.Name "len" p11) [.Name "altchars" p12] [] p13) [.Eq] [.Constant (.int 2) 0 p14] p15) (beG e) true (by kernel_rfl) _ _ _ _ none _ _ c ei F5.toFrameW) (fun v6 s6 h6 => ?_) fun _ _ z => z))
  obtain ⟨rfl, k6⟩ := h6
  exact ⟨rfl, wpAny_execs_cons (wpAny_Return_some (be_last Fd hle ei (F5.ex k6) hl1 hl2 fun t s' k => hQ t s' (kp_trans k5 (kp_trans k6 k))))⟩
/-- b64encode(b, marks) -/
theorem be_ok (Fd : Found w g) (lim : g.NoLimit) {xs : List AV} {r : AV} (hk : beK xs = some r) {vs : List Value} (c : Cx A 100) (lv : Live hid s.heap) (top : ∀ b o, g.get? b = some o → s.heap.get? b = some o)
    (d : DenAll (vw s.heap hid) vs xs) : wpAny (model prog w) A (call (.ref 764) vs) (Post hid s r) E s := by
  cases xs with
  | nil => cases hk
  | cons x1 xs =>
  obtain ⟨x2, h2, hk1⟩ := obind hk
  obtain ⟨b, hb, hk2⟩ := obind hk1
  obtain ⟨al, ha, hk3⟩ := obind hk2
  clear hk hk1 hk2
  cases one_ok h2
  cases bytesOf_ok hb
  cases bytesOf_ok ha
  by_cases hal : al = [39, 34]
  · rw [if_pos hal] at hk3
    subst hal
    obtain ⟨v, he, hk4⟩ := obind hk3
    obtain ⟨e, hv, hk5⟩ := obind hk4
    clear hk3 hk4
    cases bytesOf_ok hv
    by_cases hle : e.length ≤ 1048576
    · rw [if_pos hle] at hk5
      cases hk5
      obtain ⟨v1, us, rfl, d1, d2⟩ := d.inv_cons
      obtain ⟨v2, us, rfl, d4, d3⟩ := d2.inv_cons
      cases d3.inv_nil
      obtain ⟨b, t, rfl, rfl⟩ := d1.inv_bytes
      obtain ⟨a2, u, rfl, e2⟩ := d4.inv_bytes
      cases arr_eq e2
      have ea : beF.a = 764 := by kernel_rfl
      rw [← ea]
      refine hand_call (args := ⟨[.bytes b t, .bytes #[39, 34] u], []⟩) (ps := [Str.ofString "s", Str.ofString "altchars"]) (wfP_of be_wf.2 be_wf.1) (Fd.rowAt (i := 6) (by decide)) lim c lv top (bindsTo_of (Fd.frag.keeps top) fun S => be_bind w S (.bytes b t) (.bytes #[39, 34] u)) be_loc d fun env L s₁ Q' E' ei Fr c1 hq => ?_
      have Fb : FnAt g baF := Fd.rowAt (i := 5) (by decide)
      obtain ⟨ob, hob, hdb, _⟩ := Fb.obj
      have eb : baF.a = 756 := by kernel_rfl
      rw [eb] at hob
      obtain ⟨m, mb, hg, hbn, hfn, hbl, _⟩ := Fd.names
      have hba : m (Str.ofString "b2a_base64") = some (.ref 756) := hfn (rowAt 5) (rowAt_mem 5 (by decide))
      obtain ⟨n1, n2, n3, n4, n5, n6⟩ := be_names
      obtain ⟨p1, p2, p3, p4, p5, p6, p7, hsh⟩ := be_shape1
      have eb : beF.body = beF.body.take 1 ++ beF.body.drop 1 := (List.take_append_drop 1 _).symm
      rw [eb, hsh]
      refine wpAny_execs_cons (wpAny_Assign_Name ?_ rfl)
      show wpAny _ _ (do callWith p6 (← eval (.Name "b2a_base64" p2) env) [] (backTo p6 (starEach [.Name "s" p3] env)) (backToKw p6 (keywordEach [⟨some (Str.ofString "newline"), .Constant (.bool false) 0 p4, p5⟩] env))) _ _ _
      refine wpAny_bind (nameG_ok n4 (by decide +kernel) hg hbn (.inl hba) ei Fr.top ?_)
      refine callWith_def_kw (o := ob) hdb (evalArgs_kw2 rfl (args_cons (wpAny_mono (name_ok (r := .bytes b.toList) n1 (by kernel_rfl) ei Fr.toFrameW (by decide +kernel)) (fun v1 s1 h1 => ?_) fun _ _ z => z) rfl))
      obtain ⟨k01, d01⟩ := h1
      obtain ⟨b1, t1, rfl, hb1⟩ := d01.inv_bytes
      have F1 := Fr.ex k01
      refine args_nil (kwAll_cons (wpAny_mono (const_ok (hid := []) (r := .bool false) rfl) (fun v2 s2 h2 => ?_) fun _ _ z => z))
      obtain ⟨k12, d12⟩ := h2
      cases d12.inv_bool
      have F2 := F1.ex k12
      refine kwAll_nil ⟨F2.top _ _ hob, ?_⟩
      refine ba_ok Fd lim (c1.mono (by lia)) F2.top (by rw [← hb1]; exact he) fun v3 s3 k23 d23 => ?_
      have k03 := kp_trans k01 (kp_trans k12 k23)
      have F3 := Fr.ex k03
      obtain ⟨a3, t3, rfl, he3⟩ := d23.inv_bytes
      cases arr_eq he3
      refine wpAny_mono (store_ok n3 ei F3 (v := .bytes e) (by have := Den.bytes (φ := vw s3.heap (L :: ((none : Option Addr).toList ++ hid))) e.toArray t3; simpa using this)) (fun _ s4 h4 => ?_) fun _ _ z => z
      obtain ⟨oa, F4, kb4, ho4⟩ := h4
      have hoa : oa = none := by
        cases oa with
        | none => rfl
        | some a => cases ho4 a rfl
      subst hoa
      have sub : Sub (beG e) ((⟨([Str.ofString "s", Str.ofString "altchars"].zip [AV.bytes b.toList, .bytes [39, 34]]).reverse, none⟩ : FS).set (Str.ofString "encoded") (.bytes e)) := be_sub _ _
      refine be_rest Fd lim (c1.mono (by lia)) hle ei (F4.sub sub) fun t' s' k4 => hq _ _ ?_ fun k => ⟨k, ?_⟩
      · exact (KB.of_keeps (W := []) k03).trans (kb4.trans (KB.of_keeps (W := []) k4) fun x o e n => ⟨n, List.not_mem_nil⟩) fun x o e n => ⟨List.not_mem_nil, n⟩
      · simpa using Den.bytes (φ := vw s'.heap hid) (marked e.toArray) t'
    · rw [if_neg hle] at hk5; cases hk5
  · rw [if_neg hal] at hk3; cases hk3
end
end Mine
end
/- R15 -/
section
open PySem PySem.W PyProof.Rows PySem.Calls
set_option Elab.async false
set_option linter.unusedVariables false
set_option linter.unusedSimpArgs false
namespace Mine
set_option maxRecDepth 100000
section
variable {prog : Program} {w : World} {g : Heap}
theorem natW_key {x : Str} {a : Addr} {k : List AV → Option AV} (h : TW.nat x = some (a, k)) : (x = "b64encode" ∧ a = 764 ∧ k = beK) ∨ (x = "_law_number" ∧ a = 862 ∧ k = numK) ∨ (x = "_law_row" ∧ a = 869 ∧ k = rowK) := by
  have h : (if x = "b64encode" then some (764, beK) else if x = "_law_number" then some (862, numK) else if x = "_law_row" then some (869, rowK) else none) = some (a, k) := h
  by_cases q : x = "b64encode"
  · rw [if_pos q] at h; cases h; exact .inl ⟨q, rfl, rfl⟩
  · rw [if_neg q] at h
    by_cases q : x = "_law_number"
    · rw [if_pos q] at h; cases h; exact .inr (.inl ⟨q, rfl, rfl⟩)
    · rw [if_neg q] at h
      by_cases q : x = "_law_row"
      · rw [if_pos q] at h; cases h; exact .inr (.inr ⟨q, rfl, rfl⟩)
      · rw [if_neg q] at h; cases h
theorem natTW (Fd : Found w g) (lim : g.NoLimit) : NatOk prog w TW g := by
  obtain ⟨m, mb, n1, n2, n3, n4, n5, n6⟩ := Fd.names
  have fnObj : ∀ i, i < 25 → ∃ o fd, g.get? (fnOf (rowAt i)).a = some o ∧ o.data = .func fd := fun i hi => by
    obtain ⟨o, ho, hdd, _⟩ := (Fd.rowAt (i := i) hi).obj
    exact ⟨o, _, ho, hdd⟩
  have e1 : (fnOf (rowAt 6)).a = 764 := by kernel_rfl
  have e2 : (fnOf (rowAt 20)).a = 862 := by kernel_rfl
  have e3 : (fnOf (rowAt 21)).a = 869 := by kernel_rfl
  refine ⟨⟨m, n1, fun x a k h => ?_⟩, fun x a k h => ?_, fun x a k h => ?_, fun x a k h => ?_⟩
  · rcases natW_key h with ⟨rfl, rfl, rfl⟩ | ⟨rfl, rfl, rfl⟩ | ⟨rfl, rfl, rfl⟩
    · exact n3 (rowAt 6) (rowAt_mem 6 (by decide))
    · exact n3 (rowAt 20) (rowAt_mem 20 (by decide))
    · exact n3 (rowAt 21) (rowAt_mem 21 (by decide))
  · rcases natW_key h with ⟨rfl, rfl, rfl⟩ | ⟨rfl, rfl, rfl⟩ | ⟨rfl, rfl, rfl⟩
    · exact e1 ▸ fnObj 6 (by decide)
    · exact e2 ▸ fnObj 20 (by decide)
    · exact e3 ▸ fnObj 21 (by decide)
  · intro xs r hk A hid s vs E c lv top d
    rcases natW_key h with ⟨rfl, rfl, rfl⟩ | ⟨rfl, rfl, rfl⟩ | ⟨rfl, rfl, rfl⟩
    · exact be_ok Fd lim hk c lv top d
    · obtain ⟨a, h1, hk1⟩ := obind hk
      obtain ⟨ys, h2, hk2⟩ := obind hk1
      obtain ⟨r', h3, hk3⟩ := obind hk2
      clear hk hk1 hk2
      cases one_ok h1
      cases listOf'_ok h2
      obtain ⟨rfl, hf⟩ := natsOf_ok h3
      by_cases q : r'.length ≤ 12
      · rw [if_pos q] at hk3
        cases hk3
        obtain ⟨v, us, rfl, d1, d2⟩ := d.inv_cons
        cases d2.inv_nil
        exact num_walk Fd lim q hf c lv top d1
      · rw [if_neg q] at hk3; cases hk3
    · cases xs with
      | nil => cases hk
      | cons a t =>
        obtain ⟨b, h1, hk1⟩ := obind hk
        obtain ⟨n, h2, hk2⟩ := obind hk1
        obtain ⟨S, h3, hk3⟩ := obind hk2
        clear hk hk1 hk2
        cases one_ok h1
        cases intOf_ok h2
        cases intOf_ok h3
        by_cases q : 0 ≤ n ∧ 0 ≤ S ∧ S ≤ 12
        · rw [if_pos q] at hk3
          cases hk3
          refine row_walk Fd lim (S := S.toNat) (n := n.toNat) (by omega) c lv top ?_
          rw [Int.toNat_of_nonneg q.1, Int.toNat_of_nonneg q.2.1]
          exact d
        · rw [if_neg q] at hk3; cases hk3
  · rcases natW_key h with ⟨rfl, rfl, rfl⟩ | ⟨rfl, rfl, rfl⟩ | ⟨rfl, rfl, rfl⟩ <;> decide +kernel
/-- what an expression gives, whatever follows -/
noncomputable def EvN (T : Tab) (sc : Scope) (n : Nat) (e : Expr) (f : FS) (v : AV) : Prop := ∀ (α : Type) (k : AV → Qt α), (evT T sc n e f k).val = (k v).val
noncomputable def EvsN (T : Tab) (sc : Scope) (n : Nat) (es : List Expr) (f : FS) (vs : List AV) : Prop := ∀ (α : Type) (k : List AV → Qt α), (evsT T sc n es f k).val = (k vs).val
noncomputable def TrN (T : Tab) (sc : Scope) (n : Nat) (e : Expr) (f : FS) (v : Bool) : Prop := ∀ (α : Type) (k : Bool → Qt α), (trT T sc n e f k).val = (k v).val
section
variable {T : Tab} {sc : Scope} {f : FS}
theorem evn_name {n : Nat} {x : Str} {p : Pos} {v : AV} (hx : sc.names.lookup x = some .local) (hd : (x == ("__debug__" : Str)) = false) (h : f.get x = some v) : EvN T sc (n + 1) (.Name x p) f v := by
  intro α k
  show (nameT T sc x f k).val = _
  unfold nameT
  rw [if_pos hx, if_neg (by rw [hd]; decide), h]
  rfl
theorem evsn_1 {n : Nat} {e : Expr} {v : AV} (h : EvN T sc (n + 1) e f v) : EvsN T sc (n + 2) [e] f [v] := by
  intro α k
  show (evT T sc (n + 1) e f fun x => evsT T sc (n + 1) [] f fun xs => k (x :: xs)).val = _
  rw [h]; rfl
theorem evsn_2 {n : Nat} {e d : Expr} {u v : AV} (h : EvN T sc (n + 2) e f u) (h2 : EvN T sc (n + 1) d f v) : EvsN T sc (n + 3) [e, d] f [u, v] := by
  intro α k
  show (evT T sc (n + 2) e f fun x => evsT T sc (n + 2) [d] f fun xs => k (x :: xs)).val = _
  rw [h]
  exact evsn_1 h2 _ _
theorem evn_call {n : Nat} {g : Str} {p p' : Pos} {e : Expr} {es : List Expr} {xs : List AV} {v : AV} (hg : sc.names.lookup g = some .globalImplicit) (hc : canG T g = true) (ha : (e :: es).all isEv = true) (h : EvsN T sc n (e :: es) f xs)
    (hk : ∀ (α : Type) (k : AV → Qt α), (match T.fn g with | some F => callT T n F xs k | none => natT T n g xs k).val = (k v).val) : EvN T sc (n + 1) (.Call (.Name g p) (e :: es) [] p') f v := by
  intro α k
  have hgc : gcall (.Call (.Name g p) (e :: es) [] p') = some (g, e, es) := by
    show (if ([] : List Keyword).isEmpty = true ∧ (e :: es).all isEv = true then some (g, e, es) else none) = _
    rw [if_pos ⟨rfl, ha⟩]
  show (ofO (gcall (.Call (.Name g p) (e :: es) [] p')) fun c => if sc.names.lookup c.1 = some .globalImplicit ∧ canG T c.1 = true then evsT T sc n (c.2.1 :: c.2.2) f fun xs => (match T.fn c.1 with
      | some F => callT T n F xs k
      | none => natT T n c.1 xs k) else .fail).val = _
  rw [hgc]
  show (if sc.names.lookup g = some .globalImplicit ∧ canG T g = true then evsT T sc n (e :: es) f fun xs => (match T.fn g with
      | some F => callT T n F xs k
      | none => natT T n g xs k) else .fail).val = _
  rw [if_pos ⟨hg, hc⟩, h]
  exact hk _ k
theorem natN {n : Nat} {g : Str} {xs : List AV} {v : AV} {a : Addr} {kk : List AV → Option AV} (h1 : T.fn g = none) (h2 : T.nat g = some (a, kk)) (hn : 100 ≤ n) (hv : kk xs = some v) {α : Type} (k : AV → Qt α) : (match T.fn g with | some F => callT T n F xs k | none => natT T n g xs k).val = (k v).val := by
  rw [h1]
  show (natT T n g xs k).val = _
  unfold natT
  rw [h2]
  show (if 100 ≤ n then ofO (kk xs) k else .fail).val = _
  rw [if_pos hn, hv]
  rfl
theorem bltN {n : Nat} {g : Str} {xs : List AV} {v : AV} (h1 : T.fn g = none) (h2 : T.nat g = none) {α : Type} {k : AV → Qt α} (hv : (bltT g xs k).val = (k v).val) : (match T.fn g with | some F => callT T n F xs k | none => natT T n g xs k).val = (k v).val := by
  rw [h1]
  show (natT T n g xs k).val = _
  unfold natT
  rw [h2]
  exact hv
end
theorem allTW (Fd : Found w g) (lim : g.NoLimit) (n : Nat) : AllOk prog w TW g n := allOk (topIs (nat := natW) Fd lim) (natTW Fd lim) n n (Nat.le_refl _)
end
end Mine
end
/- R16 -/
section
open PySem PySem.W PyProof.Rows PySem.Calls
set_option Elab.async false
set_option linter.unusedVariables false
set_option linter.unusedSimpArgs false
namespace Mine
set_option maxRecDepth 100000
noncomputable def liSc : Scope := liF.fd.scope
/-- the parts of a comprehension with one clause -/
noncomputable def compOf : Expr → Option (Expr × Expr × Scope)
  | .ListComp elt gens sc _ => (one gens).bind fun g => some (elt, g.iter, sc)
  | _ => none
noncomputable def noParts : Expr × Expr × Scope := (.Constant .none 0 ⟨0, 0, 0, 0⟩, .Constant .none 0 ⟨0, 0, 0, 0⟩, liSc)
noncomputable def liP : Expr × Expr × Scope := ((one (liF.body.drop 2)).bind fun s => (stRet s).bind fun e => (callOf e).bind fun c => (one c.2.1).bind compOf).getD noParts
noncomputable def liE : Expr := liP.1
noncomputable def liI : Expr := liP.2.1
noncomputable def liS : Scope := liP.2.2
theorem li_shape : ∃ k p1 ap px pos cp rp, liF.body.drop 2 = [.Return (some (.Call (.Attribute (.Constant (.str "") k p1) "join" ap) [.ListComp liE [⟨.Name "octet" px, liI, [], 0⟩] liS pos] [] cp)) rp] ∧ (ap.endLine == cp.line) = true := ⟨_, _, _, _, _, _, _, rfl, rfl⟩
theorem liI_shape : ∃ p1 p2 p3 p4 k p5 p6, liI = .Call (.Name "b64encode" p1) [.Call (.Name "bytes" p2) [.Name "octets" p3] [] p4, .Constant (.bytes [39, 34]) k p5] [] p6 := ⟨_, _, _, _, _, _, _, rfl⟩
theorem li_wf : CompWf liS "octet" := ⟨by decide +kernel, by decide +kernel, by kernel_rfl, by decide +kernel, by kernel_rfl⟩
theorem chr_all : (List.range 64).map (fun f => ev TW liS 110 liE ⟨[(Str.ofString "octet", .int ((sgOf f : Nat) : Int))], none⟩) = (List.range 64).map (fun f => some (.str (chrS (sgOf f)))) := by kernel_rfl
theorem chr_ok (f : Nat) (h : f < 64) : ev TW liS 110 liE ⟨[(Str.ofString "octet", .int ((sgOf f : Nat) : Int))], none⟩ = some (.str (chrS (sgOf f))) := map_at chr_all h
theorem evMap_ok (fs : List Nat) (h : ∀ f ∈ fs, f < 64) : evMap TW liS 110 "octet" liE (fs.map fun f => ((sgOf f : Nat) : Int)) (fs.map fun f => .str (chrS (sgOf f))) := by
  refine ⟨by rw [List.length_map, List.length_map], fun i a e => ?_⟩
  rw [List.getElem?_map] at e
  obtain ⟨f, hf, rfl⟩ := Option.map_eq_some_iff.mp e
  exact ⟨_, by rw [List.getElem?_map, hf]; rfl, chr_ok f (h f (List.mem_of_getElem? hf)), rfl⟩
end Mine
end
/- R17 -/
section
open PySem PySem.W PyProof.Rows PySem.Calls
set_option Elab.async false
set_option linter.unusedVariables false
set_option linter.unusedSimpArgs false
namespace Mine
set_option maxRecDepth 100000
theorem li_names : liSc.names.lookup (Str.ofString "b64encode") = some .globalImplicit ∧ liSc.names.lookup (Str.ofString "bytes") = some .globalImplicit ∧ liSc.names.lookup (Str.ofString "octets") = some .local := ⟨by kernel_rfl, by kernel_rfl, by kernel_rfl⟩
theorem tw_be : TW.fn (Str.ofString "b64encode") = none ∧ TW.nat (Str.ofString "b64encode") = some (764, beK) := ⟨by kernel_rfl, by kernel_rfl⟩
theorem tw_by : TW.fn (Str.ofString "bytes") = none ∧ TW.nat (Str.ofString "bytes") = none ∧ TW.val (Str.ofString "bytes") = some (.typ "bytes") ∧ bltVal (Str.ofString "bytes") = some (.type "bytes") := ⟨by kernel_rfl, by kernel_rfl, by kernel_rfl, by kernel_rfl⟩
theorem ints_map : ∀ xs : List Int, intsOf (xs.map .int) = some xs := by
  intro xs
  induction xs with
  | nil => rfl
  | cons a r ih =>
    show (intsOf (r.map .int)).bind (fun l => some (a :: l)) = _
    rw [ih]; rfl
theorem octI_len : ∀ fs : List Nat, (octI fs).length ≤ fs.length * 3 := by
  intro fs
  induction fs using octI.induct with
  | case1 a b c d r ih => simp only [octI, List.length_cons] at ih ⊢; lia
  | case2 t h => simp [octI]
theorem iter_ev {fs : List Nat} (hl : fs.length = 4 ∨ fs.length = 8 ∨ fs.length = 12) (hf : ∀ f ∈ fs, f < 64) {l : List (Str × AV)} :
    ev TW liSc 110 liI ⟨l, some (Str.ofString "octets", (octI fs).map .int)⟩ = some (.bytes (fs.map fun f => (sgOf f).toUInt8)) := by
  obtain ⟨p1, p2, p3, p4, k, p5, p6, he⟩ := liI_shape
  obtain ⟨n1, n2, n3⟩ := li_names
  obtain ⟨h1, h2⟩ := octI_ok hf
  have hle : (octI fs).length ≤ 1048576 := by
    have := octI_len fs
    have e : (12 : Nat) * 3 ≤ 1048576 := by decide
    have e2 : fs.length ≤ 12 := by lia
    exact Nat.le_trans this (Nat.le_trans (Nat.mul_le_mul_right 3 e2) e)
  have hg : (⟨l, some (Str.ofString "octets", (octI fs).map .int)⟩ : FS).get (Str.ofString "octets") = some (.list ((octI fs).map .int)) := by kernel_rfl
  have eo := evn_name (T := TW) (n := 105) (p := p3) n3 (by decide +kernel) hg
  have eb : EvN TW liSc 108 (.Call (.Name (Str.ofString "bytes") p2) [.Name (Str.ofString "octets") p3] [] p4) ⟨l, some (Str.ofString "octets", (octI fs).map .int)⟩ (.bytes (octB fs)) := by
    refine evn_call n2 (by decide +kernel) rfl (evsn_1 eo) fun _ k => bltN tw_by.1 tw_by.2.1 ?_
    show (ofO (intsOf ((octI fs).map .int)) fun ns => .need (ns.all fun n => decide (0 ≤ n ∧ n < 256)) (.need (decide (ns.length ≤ 1048576)) (k (.bytes (ns.map fun n => n.toNat.toUInt8))))).val = _
    rw [ints_map]
    show (Qt.need ((octI fs).all fun n => decide (0 ≤ n ∧ n < 256)) (.need (decide ((octI fs).length ≤ 1048576)) (k (.bytes ((octI fs).map fun n => n.toNat.toUInt8))))).val = _
    rw [h1, decide_eq_true hle, h2]
    rfl
  have es := evsn_2 (T := TW) (n := 106) eb (v := .bytes [39, 34]) (d := .Constant (.bytes [39, 34]) k p5) fun _ k => rfl
  rw [he]
  exact evn_call n1 (by decide +kernel) rfl es (fun _ k => natN tw_be.1 tw_be.2 (by decide) (line_ok hl hf).2 k) _ .done
end Mine
end
/- R18 -/
section
open PySem PySem.W PyProof.Rows PySem.Calls
set_option Elab.async false
set_option linter.unusedVariables false
set_option linter.unusedSimpArgs false
namespace Mine
set_option maxRecDepth 100000
theorem li_fwf : wfOB liF = true ∧ (match liF.fd.body with | .stmts b => b | _ => []) = liF.body ∧ liF.ps = [Str.ofString "row"] ∧ liF.a = 874 := ⟨by decide +kernel, by kernel_rfl, by kernel_rfl, by kernel_rfl⟩
theorem li_bind (a : Value) : bindArgs liF.fd ⟨[a], []⟩ = pure [(Str.ofString "row", a)] := by kernel_rfl
theorem strs_are {φ : Addr → Option Obj} : ∀ {cs : List Nat} {vs : List Value}, DenAll φ vs (cs.map fun c => .str (chrS c)) → StrsAre vs (cs.map chrS)
  | [], _, .nil => .nil
  | c :: r, _, .cons d ds => by
    cases d
    exact .cons _ _ (strs_are ds)
theorem join_chr : ∀ cs : List Nat, Str.join (Str.ofString "") (cs.map chrS) = strL cs
  | [] => rfl
  | [c] => rfl
  | c :: d :: r => by
    have ih := join_chr (d :: r)
    simp only [List.map_cons] at ih
    simp only [List.map_cons, Str.join, ih]
    show Str.mk ((#[c] ++ #[]) ++ (d :: r).toArray) = _
    simp [strL]
theorem chr_sum : ∀ cs : List Nat, ((cs.map chrS).map (·.length)).sum = cs.length
  | [] => rfl
  | c :: r => by
    have := chr_sum r
    simp only [List.map_cons, List.sum_cons, List.length_cons, this]
    show 1 + r.length = _
    lia
theorem byte_nat (fs : List Nat) (hf : ∀ f ∈ fs, f < 64) : ((fs.map fun f => (sgOf f).toUInt8).map fun c => (c.toNat : Int)) = fs.map fun f => ((sgOf f : Nat) : Int) := by
  rw [List.map_map]
  refine List.map_congr_left fun f h => ?_
  show (((sgOf f).toUInt8.toNat : Nat) : Int) = _
  rw [(al_byte f (hf f h)).2.2.2.1]
section
variable {prog : Program} {w : World} {g : Heap}
set_option maxHeartbeats 4000000 in
/-- _law_line(row) -/
theorem line_walk (Fd : Found w g) (lim : g.NoLimit) {fs : List Nat} (hl : fs.length = 4 ∨ fs.length = 8 ∨ fs.length = 12) (hf : ∀ f ∈ fs, f < 64) {A : Around} {hid : List Addr} {s : Shared} {v : Value} {E : Value → Shared → Prop} (c : Cx A 130) (lv : Live hid s.heap) (top : ∀ b o, g.get? b = some o → s.heap.get? b = some o)
    (d : Den (vw s.heap hid) v (.list (avs fs))) : wpAny (model prog w) A (call (.ref 874) [v]) (Post hid s (.str (strL (fs.map sgOf)))) E s := by
  obtain ⟨q1, q2, hps, ea⟩ := li_fwf
  have Fo := wfP_of q2 q1
  have Fa : FnAt g liF := Fd.rowAt (i := 22) (by decide)
  obtain ⟨o, ho, hdd, _⟩ := Fa.obj
  have fresh : s.heap.get? s.heap.objs.size = none := size_none _
  rw [← ea]
  refine wpAny_call (codeAny_call_plain (by have := c.depth; lia) (top _ _ ho) hdd (lim.keeps top) (Fa.code.keeps top) Fo.body (li_bind v) Fo.cell (fun p hp => ?_) (fun h₀ hn hk => ?_) Fo.co Fo.gen Fo.kind)
  · simp only [List.mem_cons, List.not_mem_nil, or_false] at hp
    rw [hp]; exact Fo.loc _ (by rw [hps]; simp)
  have ei : EnvIs (callEnv liF.fd s.heap.objs.size liF.a) liSc s.heap.objs.size := ⟨rfl, rfl, Fo.gl, Fo.bl, Fo.kind⟩
  have kp : Keeps s { s with heap := h₀, toks := s.toks + ([(Str.ofString "row", v)] : List (Str × Value)).length } := ⟨h₀, _, rfl, hk⟩
  obtain ⟨⟨l, hex⟩, _⟩ := line_ok hl hf
  have Fr : FrameAt g hid s.heap.objs.size none ⟨(liF.ps.zip [.list (avs fs)]).reverse, none⟩ h₀ := by
    refine ⟨⟨lv.keeps hk, lv.fresh fresh, fun b o e => hk b o (top b o e), _, hn, fun y u e => ?_⟩, ?_⟩
    · rw [hps] at e
      simp only [List.zip_cons_cons, List.zip_nil_left, List.reverse_cons, List.reverse_nil, List.nil_append, List.lookup] at e
      split at e
      · rename_i q
        cases e
        refine ⟨v, by rw [eq_of_beq q]; rfl, d.mono fun b o q => ?_⟩
        have q' := vw_some q
        rw [vw_get (by intro hb; rcases List.mem_cons.mp hb with z | z; (rw [z, fresh] at q'; cases q'.1); exact q'.2 z)]
        exact hk b o q'.1
      · cases e
    · cases e : g.get? s.heap.objs.size with
      | none => rfl
      | some o => rw [top _ _ e] at fresh; cases fresh
  have c1 := c.deeper (callEnv liF.fd s.heap.objs.size liF.a)
  generalize henv : callEnv liF.fd s.heap.objs.size liF.a = env at *
  generalize hLL : s.heap.objs.size = L at *
  have hT := topIs (nat := natW) Fd lim
  have hN := natTW (prog := prog) Fd lim
  have eb : liF.body = liF.body.take 2 ++ liF.body.drop 2 := (List.take_append_drop 2 _).symm
  obtain ⟨k, p1, ap, px, pos, cp, rp, hd, hline⟩ := li_shape
  rw [eb, hd]
  refine exs_then hT hN ei hex (c1.mono (by lia)) Fr fun s1 oa F k1 o1 => ?_
  refine wpAny_execs_cons (wpAny_Return_some ?_)
  refine MethodCallG ?a1 ?a2 ?a3 hline ?a4
  case a1 => rfl
  case a2 => rfl
  case a3 => simp
  have ok := allOk (prog := prog) hT hN 110 110 (Nat.le_refl _)
  refine wpAny_mono (ok.ev _ (.Constant (.str "") k p1) _ (.str "") rfl _ _ _ _ oa _ _ (c1.mono (by lia)) ei F.toFrameW) (fun v2 s2 h2 pl => ?_) fun _ _ z => z
  obtain ⟨k12, d2⟩ := h2
  cases d2
  rename_i t2
  have F2 := F.ex k12
  refine GM.join (Q := _) ?_
  refine callWith_method1 (args_cons (wpAny_mono (comp_bytes ok.ev (c1.mono (by lia)) ei li_wf F2.toFrameW (b := fs.map fun f => (sgOf f).toUInt8) (rs := fs.map fun f => .str (chrS (sgOf f))) ?_ (iter_ev hl hf) ?_) (fun v3 s3 h3 => ?_) fun _ _ z => z) rfl)
  · simp only [List.length_map]
    have : (12 : Nat) ≤ 1048576 := by decide
    lia
  · rw [byte_nat fs hf]; exact evMap_ok fs hf
  obtain ⟨k23, D, vs, rfl, hD, hlD, dD⟩ := h3
  refine args_nil ?_
  show wpAny _ _ (call (.builtin "str.join") [.str (Str.ofString "") t2, .ref D]) _ _ _
  have ds : DenAll (fun _ => none) vs ((fs.map sgOf).map fun c => .str (chrS c)) := by rw [List.map_map]; exact dD
  have hw : (((fs.map sgOf).map chrS).map (·.length)).sum + ((fs.map sgOf).map chrS).length ≤ 1048576 := by
    rw [chr_sum]
    simp only [List.length_map]
    have : (24 : Nat) ≤ 1048576 := by decide
    lia
  refine join_listW (ys := (fs.map sgOf).map chrS) hlD (by simpa using strs_are ds) (by decide) hw fun t' k' => ?_
  have kt : Keeps s3 { s3 with toks := k' } := ⟨_, _, rfl, fun _ _ e => e⟩
  have kb : KB [L] s { s3 with toks := k' } := (KB.of_keeps (W := []) kp).trans (k1.trans (KB.of_keeps (W := []) (kp_trans k12 (kp_trans k23 kt))) fun x o e n => ⟨n, List.not_mem_nil⟩) fun x o e n => ⟨List.not_mem_nil, n⟩
  refine ⟨kb.keeps fun x hx => by rw [List.mem_singleton.mp hx]; exact fresh, ?_⟩
  have e : Txt.join (Str.ofString "") ((fs.map sgOf).map chrS) = strL (fs.map sgOf) := (StrLaws.glued_eq_join _ _).trans (join_chr _)
  rw [e]
  exact .str _ _
end
end Mine
end
/- R19 -/
section
open PySem PySem.W PyProof.Rows
set_option Elab.async false
set_option linter.unusedVariables false
set_option linter.unusedSimpArgs false
namespace Mine
set_option maxRecDepth 100000
noncomputable def qOf : Nat → Nat
  | 0 => 0
  | 1 => 39
  | _ => 34
theorem sg_plain : ∀ f, f < 62 → sgOf f ∈ plainC := by decide +kernel
theorem sg_62 : sgOf 62 = 39 ∧ sgOf 63 = 34 := by decide +kernel
theorem chars_ok {fs : List Nat} (h : ∀ f ∈ fs, f < 64) : CharsOk (fs.map sgOf) := by
  intro c hc
  obtain ⟨f, hf, rfl⟩ := List.mem_map.mp hc
  have := h f hf
  rcases (show f < 62 ∨ f = 62 ∨ f = 63 by lia) with q | rfl | rfl
  · exact .inl (sg_plain f q)
  · exact .inr (.inl sg_62.1)
  · exact .inr (.inr sg_62.2)
theorem mach_good : ∀ (fs : List Nat) (p : Nat) (t : List Nat) (qd : Bool), p < 3 → (∀ f ∈ fs, f < 64) →
    (good p fs = true → ∃ qd', mach (qOf p) t qd (fs.map sgOf) = some (t ++ wordOf p fs, qd')) ∧ (good p fs = false → mach (qOf p) t qd (fs.map sgOf) = none)
  | [], p, t, qd, hp, hf => by
    rcases (show p = 0 ∨ p = 1 ∨ p = 2 by lia) with rfl | rfl | rfl <;> simp [good, mach, qOf, wordOf]
  | f :: r, p, t, qd, hp, hf => by
    have h := hf f (List.mem_cons_self ..)
    have hr := fun x hx => hf x (List.mem_cons_of_mem _ hx)
    have ih := fun t qd => mach_good r (nx p f) t qd (nx_lt hp f) hr
    rcases (show f < 62 ∨ f = 62 ∨ f = 63 by lia) with q | rfl | rfl
    · have hq : nx p f = p := by simp [nx, q]
      obtain ⟨n1, n2⟩ := plain_ne (sg_plain f q)
      rw [hq] at ih
      have step : ∃ qd1, mach (qOf p) t qd ((f :: r).map sgOf) = mach (qOf p) (t ++ [sgOf f]) qd1 (r.map sgOf) := by
        rcases (show p = 0 ∨ p = 1 ∨ p = 2 by lia) with rfl | rfl | rfl
        · exact ⟨qd, by simp [mach, qOf, n1, n2]⟩
        · exact ⟨true, by simp [mach, qOf, n1, n2]⟩
        · exact ⟨true, by simp [mach, qOf, n1, n2]⟩
      obtain ⟨qd1, e⟩ := step
      rw [e]
      simp only [good, wordOf, hq, if_true]
      have := ih (t ++ [sgOf f]) qd1
      simpa using this
    · rcases (show p = 0 ∨ p = 1 ∨ p = 2 by lia) with rfl | rfl | rfl
      · have := ih t qd
        simpa [nx, good, wordOf, mach, qOf, sg_62.1] using this
      · have := ih t true
        simpa [nx, good, wordOf, mach, qOf, sg_62.1] using this
      · have := ih (t ++ [39]) true
        simpa [nx, good, wordOf, mach, qOf, sg_62.1] using this
    · rcases (show p = 0 ∨ p = 1 ∨ p = 2 by lia) with rfl | rfl | rfl
      · have := ih t qd
        simpa [nx, good, wordOf, mach, qOf, sg_62.2] using this
      · have := ih (t ++ [34]) true
        simpa [nx, good, wordOf, mach, qOf, sg_62.2] using this
      · have := ih t true
        simpa [nx, good, wordOf, mach, qOf, sg_62.2] using this
end Mine
end
/- R20 -/
section
open PySem PySem.W PyProof.Rows PySem.Calls
set_option Elab.async false
set_option linter.unusedVariables false
set_option linter.unusedSimpArgs false
namespace Mine
set_option maxRecDepth 100000
noncomputable def toldN : Str := toldF.fd.qualname
noncomputable def toldS : Scope := toldF.fd.scope
noncomputable def toldC : Value := toldF.fd.code
theorem told_env (L a : Addr) : callEnv toldF.fd L a = envOf toldN toldS L a toldC := by kernel_rfl
theorem told_shape : ∃ p1 p2 p3 p4 p5 p6 p7 p8 p9 p10 p11 p12 p13 p14 p15 p16, toldF.body.drop 4 = [.Try [.Return (some (.Compare (.Call (.Name "split" p1) [.Call (.Name "_law_line" p2) [.Name "row" p3] [] p4] [] p5) [.Eq] [.List [.Name "word" p6] p7] p8)) p9] [.ExceptHandler (some (.Name "ValueError" p10)) (some (Str.ofString "fault")) [.Return (some (.Call (.Name "str" p11) [.Name "fault" p12] [] p13)) p14] p15] [] [] p16] :=
  ⟨_, _, _, _, _, _, _, _, _, _, _, _, _, _, _, _, rfl⟩
theorem told_names : toldS.names.lookup (Str.ofString "split") = some .globalImplicit ∧ toldS.names.lookup (Str.ofString "_law_line") = some .globalImplicit ∧ toldS.names.lookup (Str.ofString "ValueError") = some .globalImplicit ∧ toldS.names.lookup (Str.ofString "str") = some .globalImplicit ∧
    toldS.names.lookup (Str.ofString "row") = some .local ∧ toldS.names.lookup (Str.ofString "word") = some .local ∧ toldS.names.lookup (Str.ofString "fault") = some .local ∧ toldS.kind = .function := ⟨by kernel_rfl, by kernel_rfl, by kernel_rfl, by kernel_rfl, by kernel_rfl, by kernel_rfl, by kernel_rfl, by kernel_rfl⟩
theorem told_fwf : wfOB toldF = true ∧ (match toldF.fd.body with | .stmts b => b | _ => []) = toldF.body ∧ toldF.ps = [Str.ofString "row"] ∧ toldF.a = 881 := ⟨by decide +kernel, by kernel_rfl, by kernel_rfl, by kernel_rfl⟩
theorem told_bind (a : Value) : bindArgs toldF.fd ⟨[a], []⟩ = pure [(Str.ofString "row", a)] := by kernel_rfl
section
variable {prog : Program} {w : World} {A₀ : Around} {E : Value → Shared → Prop} {s' : Shared} {h₀ : Heap} {outer : List Env} {L a e t : Addr} {m : Str → Option Value}
  {vs : List Value} {n : Str} {b₀ : Stmt} {suite : List Stmt} {pos np : Pos} {rest : List ExceptHandler} {Q : Flow → Shared → Prop}
/-- all but one address stays, up to slots -/
noncomputable def ButU (L : Addr) (h h' : Heap) : Prop := ∃ h₁, h.UpToSlots h₁ ∧ Heap.SameBut L h₁ h'
theorem landed_told {cls : Value} {s₁ : Shared} (F : Fr h₀ L s'.heap m) (hsm : s'.heap.UpToSlots s₁.heap) (hheld : Heap.FlyingW h₀ (envOf toldN toldS L a toldC :: outer) e cls (.ref t) s₁.heap) (htup : s₁.heap.TupAt t vs) (hnew : h₀.get? t = none)
    {A : Around} {Q' : Unit → Shared → Prop}
    (k : ∀ h' news, ButU L s'.heap h' → Fr h₀ L h' (fun y => if y = n then some (.ref e) else m y) → News h₀ L h' news → Got news e t cls vs → Q' () { s₁ with heap := h', toks := s₁.toks + 1 })
    (hk : toldS.kind = .function) (hl : (envOf toldN toldS L a toldC).kindOf n = some .local) :
    wpAny (model prog w) A (setFlight (.ref e) none) (fun _ s₂ => wpAny (model prog w) A (storeName (envOf toldN toldS L a toldC) n (.ref e)) Q' E s₂) E s₁ := by
  refine lands_againW hheld fun h₆ hfl₆ hsm₆ => ?_
  have F₆ := F.of_stays hfl₆.1 (hsm.trans hsm₆)
  obtain ⟨oe, ws, hoe, hoec, hoed, hoe0⟩ := hfl₆.first
  obtain ⟨ot, nt, hot, hotc, hotd⟩ := htup.of_slots hsm₆
  have N₆ := News.more F₆ (News.more F₆ News.nil hot (fun es n q => by rw [hotd] at q; cases q) hnew) hoe (fun es n q => by rw [hoed] at q; cases q) hfl₆.2.1
  exact stNK F₆ N₆ (fun h₇ F₇ N₇ sb _ => k h₇ _ ⟨h₆, hsm.trans hsm₆, sb⟩ F₇ N₇ ⟨oe, ot, ws, nt, .head _, .tail _ (.head _), hoec, hoed, hoe0, hotc, hotd⟩) hk hl
/-- an exception is caught, with frames below that are not of the base -/
theorem caught_told {x : Str} {X T : String} {mg mb : Str → Option Value} (hst : A₀.frames = some outer)
    (F : Fr h₀ L s'.heap m) (hfl : Heap.FlyingW h₀ (envOf toldN toldS L a toldC :: outer) e (.type X) (.ref t) s'.heap) (htup : s'.heap.TupAt t vs) (hnew : h₀.get? t = none)
    (hg : h₀.Ns mainGlobals mg) (hmiss : mg x = none) (hb : h₀.Ns builtinsNs mb) (hv : mb x = some (.type T))
    (hexc : isSubtype (.type T) (.type "BaseException") = pure true) (hnt : isSubtype (.type ((Manifest.find? T).elim "type" fun y => y.metatype)) (.type "tuple") = pure false) (hsub : isSubtype (.type X) (.type T) = pure true)
    (k : ∀ h' news tk, ButU L s'.heap h' → Fr h₀ L h' (fun y => if y = n then some (.ref e) else m y) → News h₀ L h' news → Got news e t (.type X) vs →
      wpAny (model prog w) ((A₀.deeper (envOf toldN toldS L a toldC)).mark (some (.ref e))) (execs (b₀ :: suite) (envOf toldN toldS L a toldC))
        (fun f s₄ => wpAny (model prog w) (A₀.deeper (envOf toldN toldS L a toldC)) (do bindName (envOf toldN toldS L a toldC) n .none; unbindBehindTheSuite (envOf toldN toldS L a toldC) n pos) (fun _ s₅ => Q f s₅) E s₄)
        (AsSuiteRaised (model prog w) ((A₀.deeper (envOf toldN toldS L a toldC)).mark (some (.ref e))) (envOf toldN toldS L a toldC) n pos (notedBy (model prog w) ((A₀.deeper (envOf toldN toldS L a toldC)).mark (some (.ref e))) (envOf toldN toldS L a toldC) (cameBackBy (model prog w) (A₀.deeper (envOf toldN toldS L a toldC)) (envOf toldN toldS L a toldC) E)))
        { s' with heap := h', toks := tk })
    (hk : toldS.kind = .function) (hl : (envOf toldN toldS L a toldC).kindOf n = some .local)
    (hx : (envOf toldN toldS L a toldC).kindOf x = some .globalImplicit) (hd : (x == ("__debug__" : Str)) = false) :
    wpAny (model prog w) (A₀.deeper (envOf toldN toldS L a toldC)) (noteFrame (.ref e) (envOf toldN toldS L a toldC))
      (fun _ s₂ => wpAny (model prog w) (A₀.deeper (envOf toldN toldS L a toldC)) (setFlight (.ref e) none) (fun _ s₃ =>
        wpAny (model prog w) (A₀.deeper (envOf toldN toldS L a toldC)) (handleBy (.ref e) (envOf toldN toldS L a toldC) (.ExceptHandler (some (.Name x np)) (some n) (b₀ :: suite) pos :: rest)) Q E s₃) E s₂) E s' := by
  refine wpAny_looks_onW (Around.frames_deeper hst) rfl hfl fun h₄ hheld₄ hsm₄ => ?_
  refine wpAny_landsW hheld₄ fun h₅ hheld hsm₅' => ?_
  have hsm₅ := hsm₄.trans hsm₅'
  have F₅ := F.of_stays hheld.1 hsm₅
  obtain ⟨ob, hob, hobc⟩ := hheld.there
  refine wpAny_handleBy_builtin_as (X := X) (T := T) (b := true) hexc hnt hsub (ld_builtin_at F₅ hg hmiss hb hv ⟨rfl, ⟨ob, hob, hobc⟩, ?_⟩ hk hx hd)
  exact landed_told F hsm₅ hheld (htup.of_slots hsm₅) hnew (fun h' news B' F' N' G' => k h' news _ B' F' N' G') hk hl
end
end Mine
end
/- R21 -/
section
open PySem PySem.W PyProof.Rows PySem.Calls
set_option Elab.async false
set_option linter.unusedVariables false
set_option linter.unusedSimpArgs false
namespace Mine
set_option maxRecDepth 100000
theorem den_str {φ : Addr → Option Obj} {v : Value} {x : Str} (d : Den φ v (.str x)) : ∃ t, v = .str x t := by cases d; exact ⟨_, rfl⟩
theorem MvU.ns' {W : List Addr} {s s' : Shared} {L : Addr} {m : Str → Option Value} (x : MvU W s s') (n : L ∉ W) (h : s.heap.Ns L m) : s'.heap.Ns L m := by
  obtain ⟨o, es, ep, e1, e2, e3, e4⟩ := h
  obtain ⟨sl, e⟩ := x.keep L o n e1 (fun vs q => by rw [e2] at q; cases q)
  exact ⟨_, es, ep, e, e2, e3, e4⟩
theorem MvU.thenK {W : List Addr} {s s' s'' : Shared} (a : MvU W s s') (k : Keeps s' s'') : MvU W s s'' := by
  obtain ⟨h1, t1, rfl⟩ := a.eq
  obtain ⟨h2, t2, rfl, x⟩ := k
  refine ⟨⟨h2, t2, rfl⟩, fun b o n e d => ?_⟩
  obtain ⟨sl, q⟩ := a.keep b o n e d
  exact ⟨sl, x _ _ q⟩
section
variable {prog : Program} {w : World} {B : Heap}
set_option maxHeartbeats 1000000 in
theorem told_cmp (Fd : Found w B) (lim : B.NoLimit) {r W : List Nat} (hl : r.length = 4 ∨ r.length = 8 ∨ r.length = 12) (hr : ∀ f ∈ r, f < 64) {A : Around} {l : List Env} {env : Env} {L : Addr} {s1 : Shared} (c : Cx A 150) (ei : EnvIs env toldS L) (sk : Stk A B (env :: l) s1.heap) (up : B.objs.size ≤ L)
    (F : FrameAt B [] L none ⟨[("row", .list (avs r)), ("signs", .str sgS), ("word", .str (strL W))], none⟩ s1.heap) {p1 p2 p3 p4 p5 p6 p7 p8 : Pos} {Q E : Value → Shared → Prop}
    (hQ : ∀ t qd s', mach 0 [] false (r.map sgOf) = some (t, qd) → B.StaysIn s'.heap → MvU [] s1 s' → Q (.bool (strL t == strL W)) s')
    (hE : ∀ e s' ad, mach 0 [] false (r.map sgOf) = none → FlyO B ad (env :: l) "ValueError" [.str "No closing quotation" 20] [] s1 e s' → E e s') :
    wpAny (model prog w) A (eval (.Compare (.Call (.Name "split" p1) [.Call (.Name "_law_line" p2) [.Name "row" p3] [] p4] [] p5) [.Eq] [.List [.Name "word" p6] p7] p8) env) Q E s1 := by
  obtain ⟨m, mb, hg, hbn, hfn, hbl, _⟩ := Fd.names
  obtain ⟨n1, n2, n3, n4, n5, n6, n7, n8⟩ := told_names
  have hsp : m (Str.ofString "split") = some (.ref 734) := hfn (rowAt 2) (rowAt_mem 2 (by decide))
  have hli : m (Str.ofString "_law_line") = some (.ref 874) := hfn (rowAt 22) (rowAt_mem 22 (by decide))
  obtain ⟨osp, hosp, hdsp, _⟩ := (Fd.rowAt (i := 2) (by decide) : FnAt B (fnOf (rowAt 2))).obj
  obtain ⟨oli, holi, hdli, _⟩ := (Fd.rowAt (i := 22) (by decide) : FnAt B liF).obj
  have es : (fnOf (rowAt 2)).a = 734 := by kernel_rfl
  have el : (fnOf (rowAt 22)).a = 874 := by kernel_rfl
  rw [es] at hosp
  rw [el] at holi
  have ok := allTW (prog := prog) Fd lim 140
  refine wpAny_Compare1 ?_ rfl
  refine Call_ (nameG_ok n1 (by decide +kernel) hg hbn (.inl hsp) ei F.top (callWith_def hdsp (args_cons (Call_ (nameG_ok n2 (by decide +kernel) hg hbn (.inl hli) ei F.top (callWith_def hdli (args_cons ?_ rfl)))) rfl)))
  have er : ev TW toldS 140 (.Name (Str.ofString "row") p3) ⟨[("row", .list (avs r)), ("signs", .str sgS), ("word", .str (strL W))], none⟩ = some (.list (avs r)) :=
    (evn_name n5 (by decide +kernel) (by kernel_rfl) : EvN TW toldS 140 _ _ _) _ .done
  refine wpAny_mono (ok.ev _ _ _ _ er _ _ _ _ none _ _ (c.mono (by lia)) ei F.toFrameW) (fun v2 s2 h2 => ?_) fun _ _ z => z
  obtain ⟨k12, d2⟩ := h2
  have F2 := F.ex k12
  refine args_nil ⟨F2.top _ _ holi, ?_⟩
  refine wpAny_mono (line_walk Fd lim hl hr (hid := L :: []) (c.mono (by lia)) F2.liveL F2.top d2) (fun v3 s3 h3 => ?_) fun _ _ z => z
  obtain ⟨k23, d3⟩ := h3
  have F3 := F2.ex k23
  have k13 := kp_trans k12 k23
  generalize hX : AV.str (strL (r.map sgOf)) = X at d3
  cases d3 <;> first | cases hX | skip
  rename_i tk
  refine args_nil ⟨F3.top _ _ hosp, ?_⟩
  have up3 : B.objs.size ≤ s3.heap.objs.size := by
    obtain ⟨m3, ⟨oL, es3, ep3, eL, _⟩, _⟩ := F3.ns
    exact Nat.le_trans up (Nat.le_of_lt (Heap.lt_size eL))
  obtain ⟨m3, uw, hn3, hmw, dw⟩ := F3.toFrameW.get (x := Str.ofString "word") (v := .str (strL W)) (by kernel_rfl)
  refine split_ok (cs := r.map sgOf) (by simpa [LenOk] using hl) (chars_ok hr) (c.mono (by lia)) (sk.mv (Mv.of_keeps (W := []) k13)) Fd lim F3.top up3 (fun a t qd tk' s4 hm na la st4 mu => ?_) fun e s4 ad hm hf => ?_
  · have hn4 := mu.ns' List.not_mem_nil hn3
    obtain ⟨tw, rfl⟩ := den_str dw
    have Fw : FrameW B [] L none ⟨[(Str.ofString "word", .str (strL W))], none⟩ s4.heap := by
      refine ⟨fun b hb => absurd hb List.not_mem_nil, List.not_mem_nil, fun b o e => st4 b o e, m3, hn4, fun y v e => ?_⟩
      simp only [List.lookup] at e
      split at e
      · rename_i q
        cases e
        exact ⟨_, by rw [eq_of_beq q]; exact hmw, .str _ _⟩
      · cases e
    have el : ev TW toldS 140 (.List [.Name (Str.ofString "word") p6] p7) ⟨[(Str.ofString "word", .str (strL W))], none⟩ = some (.list [.str (strL W)]) := by kernel_rfl
    refine wpAny_mono (ok.ev _ _ _ _ el _ _ _ _ none _ _ (c.mono (by lia)) ei Fw) (fun v5 s5 h5 => ?_) fun _ _ z => z
    obtain ⟨k45, d5⟩ := h5
    obtain ⟨b, vs, rfl, hb, lb, db⟩ := d5.isList
    cases db with
    | cons db1 db2 =>
    cases db2
    obtain ⟨tv, rfl⟩ := den_str db1
    have la5 : s5.heap.IsList a #[.str ⟨t.toArray⟩ tk'] := by obtain ⟨o, e, c, n, d⟩ := la; exact ⟨o, kp_heap k45 _ _ e, c, n, d⟩
    have mu5 : MvU [] s1 s5 := ((Mv.of_keeps (W := []) k13).thenU (W' := []) mu).thenK k45
    have st5 : B.StaysIn s5.heap := fun b o e => kp_heap k45 _ _ (st4 b o e)
    refine SeqAt.eq_listAt (e := fun _ => strL t == strL W) la5 lb rfl (by have := c.units; lia) (fun j h1 h2 => ?_) ?_
    · have hj : j = 0 := by simpa using h1
      subst hj
      exact (eqGives_str _ _ _ _).at _ _
    · have := hQ t qd s5 hm st5 mu5
      simpa using this
  · refine hE e s4 ad hm ?_
    obtain ⟨ea, te, vs, q1, q2, q3, q4, q5, q6⟩ := hf
    exact ⟨ea, te, vs, q1, q2, q3, q4, q5, (Mv.of_keeps (W := []) k13).thenU (W' := []) q6⟩
end
end Mine
end
/- R22 -/
section
open PySem PySem.W PyProof.Rows PySem.Calls
set_option Elab.async false
set_option linter.unusedVariables false
set_option linter.unusedSimpArgs false
namespace Mine
set_option maxRecDepth 100000
noncomputable def msgS : Str := Str.ofString "No closing quotation"
theorem MvU.but {W : List Addr} {L : Addr} {s s' : Shared} {h' : Heap} {tk : Nat} (a : MvU W s s') (b : ButU L s'.heap h') : MvU (L :: W) s { s' with heap := h', toks := tk } := by
  obtain ⟨h2, t1, rfl⟩ := a.eq
  obtain ⟨h1, u, sb⟩ := b
  refine ⟨⟨h', tk, rfl⟩, fun x o n e d => ?_⟩
  obtain ⟨sl, q⟩ := a.keep x o (fun z => n (List.mem_cons_of_mem _ z)) e d
  obtain ⟨sl2, q2⟩ := u x _ q d
  exact ⟨sl2, (sb.2 x fun z => n (z ▸ List.mem_cons_self ..)).trans q2⟩
theorem MvU.same {W : List Addr} {L : Addr} {s s' : Shared} {h' : Heap} {tk : Nat} (a : MvU (L :: W) s s') (b : Heap.SameBut L s'.heap h') : MvU (L :: W) s { s' with heap := h', toks := tk } := by
  obtain ⟨h2, t1, rfl⟩ := a.eq
  refine ⟨⟨h', tk, rfl⟩, fun x o n e d => ?_⟩
  obtain ⟨sl, q⟩ := a.keep x o n e d
  exact ⟨sl, (b.2 x fun z => n (z ▸ List.mem_cons_self ..)).trans q⟩
theorem mg_some {B : Heap} {w : World} (Fd : Found w B) : ∃ m mb, B.Ns mainGlobals m ∧ B.Ns builtinsNs mb ∧ (m (Str.ofString "ValueError") = none ∧ mb (Str.ofString "ValueError") = some (.type "ValueError")) ∧ (m (Str.ofString "str") = none ∧ mb (Str.ofString "str") = some (.type "str")) := by
  obtain ⟨m, mb, hg, hbn, hfn, hbl, _⟩ := Fd.names
  exact ⟨m, mb, hg, hbn, hbl (Str.ofString "ValueError", .type "ValueError") (by decide +kernel), hbl (Str.ofString "str", .type "str") (by decide +kernel)⟩
end Mine
end
/- R23 -/
section
open PySem PySem.W PyProof.Rows PySem.Calls
set_option Elab.async false
set_option linter.unusedVariables false
set_option linter.unusedSimpArgs false
namespace Mine
set_option maxRecDepth 100000
theorem sub_veb : isSubtype (.type "ValueError") (.type "BaseException") = pure true := by rw [isSubtype_type]; kernel_rfl
theorem sub_ve2 : isSubtype (.type "ValueError") (.type "ValueError") = pure true := by rw [isSubtype_type]; kernel_rfl
theorem sub_vet : isSubtype (.type ((Manifest.find? "ValueError").elim "type" fun y => y.metatype)) (.type "tuple") = pure false := by rw [isSubtype_type]; kernel_rfl
section
variable {prog : Program} {w : World} {B : Heap}
set_option maxHeartbeats 2000000 in
/-- _law_told(row) -/
theorem told_walk (Fd : Found w B) (lim : B.NoLimit) {r : List Nat} (hl : r.length = 4 ∨ r.length = 8 ∨ r.length = 12) (hr : ∀ f ∈ r, f < 64) {A : Around} {l : List Env} {s : Shared} {v : Value} {Q E : Value → Shared → Prop} (c : Cx A 160) (sk : Stk A B l s.heap) (st : B.StaysIn s.heap) (up : B.objs.size ≤ s.heap.objs.size)
    (d : Den (vw s.heap []) v (.list (avs r)))
    (hQ : ∀ u s', B.StaysIn s'.heap → MvU [] s s' → (good 0 r = true → u = .bool true) → (good 0 r = false → ∃ tk, u = .str msgS tk) → Q u s') : wpAny (model prog w) A (call (.ref 881) [v]) Q E s := by
  obtain ⟨q1, q2, hps, ea⟩ := told_fwf
  have Fo := wfP_of q2 q1
  have Fa : FnAt B toldF := Fd.rowAt (i := 23) (by decide)
  obtain ⟨o, ho, hdd, _⟩ := Fa.obj
  have fresh : s.heap.get? s.heap.objs.size = none := size_none _
  obtain ⟨mg, mb, hg, hbn, hve, hst⟩ := mg_some Fd
  obtain ⟨n1, n2, n3, n4, n5, n6, n7, n8⟩ := told_names
  rw [← ea]
  refine wpAny_call (codeAny_call_plain (by have := c.depth; lia) (st _ _ ho) hdd (lim.keeps st) (Fa.code.keeps st) Fo.body (told_bind v) Fo.cell (fun p hp => ?_) (fun h₀ hn hk => ?_) Fo.co Fo.gen Fo.kind)
  · simp only [List.mem_cons, List.not_mem_nil, or_false] at hp
    rw [hp]; exact Fo.loc _ (by rw [hps]; simp)
  have ei : EnvIs (callEnv toldF.fd s.heap.objs.size toldF.a) toldS s.heap.objs.size := ⟨rfl, rfl, Fo.gl, Fo.bl, Fo.kind⟩
  have ef := callEnv_frame toldF.fd s.heap.objs.size toldF.a Fo.kind
  have kp : Keeps s { s with heap := h₀, toks := s.toks + ([(Str.ofString "row", v)] : List (Str × Value)).length } := ⟨h₀, _, rfl, hk⟩
  have bn : B.get? s.heap.objs.size = none := by
    cases e : B.get? s.heap.objs.size with
    | none => rfl
    | some o => exact absurd (Nat.lt_of_lt_of_le (Heap.lt_size e) up) (Nat.lt_irrefl _)
  have Fr0 : FrameAt B [] s.heap.objs.size none ⟨(toldF.ps.zip [.list (avs r)]).reverse, none⟩ h₀ := by
    refine ⟨⟨fun b hb => absurd hb List.not_mem_nil, List.not_mem_nil, fun b o e => hk b o (st b o e), _, hn, fun y u e => ?_⟩, bn⟩
    rw [hps] at e
    simp only [List.zip_cons_cons, List.zip_nil_left, List.reverse_cons, List.reverse_nil, List.nil_append, List.lookup] at e
    split at e
    · rename_i q
      cases e
      refine ⟨v, by rw [eq_of_beq q]; rfl, d.mono fun b o q => ?_⟩
      have q' := vw_some q
      rw [vw_get (by intro hb; rcases List.mem_cons.mp hb with z | z; (rw [z, fresh] at q'; cases q'.1); exact absurd z List.not_mem_nil)]
      exact hk b o q'.1
    · cases e
  have sk0 : Stk (A.deeper (callEnv toldF.fd s.heap.objs.size toldF.a)) B (callEnv toldF.fd s.heap.objs.size toldF.a :: l) h₀ := ⟨Around.frames_deeper sk.fr, .cons (by rw [ei.scp, ei.kind]; decide) ef hn bn ((Mv.of_keeps (W := []) kp).frames sk.fun_)⟩
  have c1 := c.deeper (callEnv toldF.fd s.heap.objs.size toldF.a)
  rw [told_env] at *
  generalize hLL : s.heap.objs.size = L at *
  obtain ⟨p1, p2, p3, p4, p5, p6, p7, p8, p9, p10, p11, p12, p13, p14, p15, p16, hd⟩ := told_shape
  have eb : toldF.body = toldF.body.take 4 ++ toldF.body.drop 4 := (List.take_append_drop 4 _).symm
  rw [eb, hd]
  refine told_four Fd lim (by lia) hr (c1.mono (by lia)) ei Fr0 fun s1 F k1 => ?_
  have kpS1 : Keeps s s1 := ((KB.of_keeps (W := []) kp).trans (W'' := [L]) k1 fun x o e n => ⟨List.not_mem_nil, n⟩).keeps fun x hx => by rw [List.mem_singleton.mp hx]; exact fresh
  obtain ⟨m1, hn1⟩ : ∃ m, s1.heap.Ns L m := let ⟨m, h, _⟩ := F.ns; ⟨m, h⟩
  have sk1 : Stk (A.deeper (envOf toldN toldS L toldF.a toldC)) B (envOf toldN toldS L toldF.a toldC :: l) s1.heap := ⟨sk0.fr, .cons (by rw [ei.scp, ei.kind]; decide) ef hn1 bn ((Mv.of_keeps (W := []) kpS1).frames sk.fun_)⟩
  have kf : (envOf toldN toldS L toldF.a toldC).kindOf (Str.ofString "fault") = some .local := n7
  refine wpAny_execs_cons (wpAny_Try_except (wpAny_execs_cons (wpAny_Return_some ?_)))
  refine told_cmp Fd lim hl hr (c1.mono (by lia)) ei sk1 up F (fun t qd s2 hm st2 mu2 => ?_) fun e s2 ad hm hf => ?_
  · have mu : MvU [] s s2 := (Mv.of_keeps (W := []) kpS1).thenU (W' := []) mu2
    have g := mach_good r 0 [] false (by decide) hr
    refine hQ _ s2 st2 mu (fun hg => ?_) fun hg => ?_
    · obtain ⟨qd', e⟩ := g.1 hg
      rw [show qOf 0 = 0 from rfl, hm] at e
      cases e
      simp
    · rw [show qOf 0 = 0 from rfl] at g
      rw [g.2 hg] at hm; cases hm
  · obtain ⟨ea, t, vs, rfl, fl, tup, ht, dn, mu2⟩ := hf
    cases dn with
    | cons dn1 dn2 =>
    cases dn2
    cases dn1
    rename_i tk hle
    have Fr2 : Fr B L s2.heap m1 := ⟨mu2.ns' List.not_mem_nil hn1, fun b o e => fl.1 b o e, up⟩
    refine caught_told sk.fr Fr2 fl tup ht hg hve.1 hbn hve.2 sub_veb sub_vet sub_ve2 (fun h' news tk' bu F3 N3 G3 => ?_) n8 kf n3 (by decide +kernel)
    refine wpAny_execs_cons (wpAny_Return_some (Call_ (nameG_ok (s := { s2 with heap := h', toks := tk' }) n4 (by decide +kernel) hg hbn (.inr hst) ei F3.keep ?_)))
    refine PyProof.Rows.callWith_type1 (args_cons (wpAny_Name (wpAny_loadName_local (m := fun y => if y = Str.ofString "fault" then some (.ref ea) else m1 y) n8 n7 F3.ns (if_pos rfl) (args_nil ?_)) (by decide +kernel)) rfl) rfl rfl
    refine str_got_one PySem.F.excStr_ValueError N3 G3 (by have := c1.units; rw [Around.mark_units]; lia) ?_
    have mu3 : MvU [L] s1 { s2 with heap := h', toks := tk' } := mu2.but bu
    show wpAny _ _ _ _ _ _
    refine wpAny_nameGoes kf F3.ns (by show (toldS.kind == .class || (toldS.kind == .module && L != mainGlobals)) = false; rw [n8]; rfl) fun h4 m4 hn4 hs4 => ?_
    have mu4 : MvU [L] s1 { s2 with heap := h4, toks := tk' + 1 } := mu3.same hs4
    have mu : MvU [] s { s2 with heap := h4, toks := tk' + 1 } := ((Mv.of_keeps (W := [L]) kpS1).thenU (W' := [L]) mu4).mono fun z o e hz => by
      rw [List.mem_singleton.mp hz, fresh] at e; cases e
    refine hQ _ _ (F3.set hn4 hs4).keep mu (fun hg => ?_) fun _ => ⟨_, rfl⟩
    obtain ⟨qd', e⟩ := (mach_good r 0 [] false (by decide) hr).1 hg
    rw [show qOf 0 = 0 from rfl, hm] at e; cases e
end
end Mine
end
/- R24 -/
section
open PySem PySem.W PyProof.Rows
set_option Elab.async false
set_option linter.unusedVariables false
set_option linter.unusedSimpArgs false
namespace Mine
set_option maxRecDepth 100000
noncomputable def lawF : Fn := fnOf (rowAt 24)
noncomputable def lawS : Scope := lawF.fd.scope
noncomputable def ltF : Fn := fnOf (rowAt 7)
noncomputable def negF : Fn := fnOf (rowAt 14)
noncomputable def modF : Fn := fnOf (rowAt 12)
theorem law_fns : TW.fn (Str.ofString "lt") = some ltF ∧ TW.fn (Str.ofString "neg") = some negF ∧ TW.fn (Str.ofString "mod") = some modF := ⟨by kernel_rfl, by kernel_rfl, by kernel_rfl⟩
theorem law_nats : TW.fn (Str.ofString "_law_number") = none ∧ TW.fn (Str.ofString "_law_row") = none ∧ TW.nat (Str.ofString "_law_number") = some (862, numK) ∧ TW.nat (Str.ofString "_law_row") = some (869, rowK) := ⟨by kernel_rfl, by kernel_rfl, by kernel_rfl, by kernel_rfl⟩
theorem law_len : TW.fn (Str.ofString "len") = none ∧ TW.nat (Str.ofString "len") = none := ⟨by kernel_rfl, by kernel_rfl⟩
theorem can : canG TW (Str.ofString "lt") = true ∧ canG TW (Str.ofString "neg") = true ∧ canG TW (Str.ofString "mod") = true ∧ canG TW (Str.ofString "_law_number") = true ∧ canG TW (Str.ofString "_law_row") = true ∧ canG TW (Str.ofString "len") = true := ⟨by kernel_rfl, by kernel_rfl, by kernel_rfl, by kernel_rfl, by kernel_rfl, by kernel_rfl⟩
theorem law_glob : lawS.names.lookup (Str.ofString "lt") = some .globalImplicit ∧ lawS.names.lookup (Str.ofString "neg") = some .globalImplicit ∧ lawS.names.lookup (Str.ofString "mod") = some .globalImplicit ∧ lawS.names.lookup (Str.ofString "_law_number") = some .globalImplicit ∧
    lawS.names.lookup (Str.ofString "_law_row") = some .globalImplicit ∧ lawS.names.lookup (Str.ofString "len") = some .globalImplicit ∧ lawS.names.lookup (Str.ofString "_law_told") = some .globalImplicit :=
  ⟨by kernel_rfl, by kernel_rfl, by kernel_rfl, by kernel_rfl, by kernel_rfl, by kernel_rfl, by kernel_rfl⟩
theorem law_loc : lawS.names.lookup (Str.ofString "script") = some .local ∧ lawS.names.lookup (Str.ofString "numbers") = some .local ∧ lawS.names.lookup (Str.ofString "drawn") = some .local ∧ lawS.names.lookup (Str.ofString "row") = some .local ∧
    lawS.names.lookup (Str.ofString "number") = some .local ∧ lawS.names.lookup (Str.ofString "ahead") = some .local ∧ lawS.names.lookup (Str.ofString "there") = some .local :=
  ⟨by kernel_rfl, by kernel_rfl, by kernel_rfl, by kernel_rfl, by kernel_rfl, by kernel_rfl, by kernel_rfl⟩
section
variable {T : Tab} {sc : Scope} {f : FS}
theorem evn_cut {n : Nat} {v up : Expr} {p p2 : Pos} {xs : List AV} {j : Int} {r : AV} (h : EvN T sc n v f (.list xs)) (h2 : EvN T sc n up f (.int j)) (hc : cut (.list xs) 0 j = some r) : EvN T sc (n + 1) (.Subscript v (.Slice none (some up) none p) p2) f r := by
  intro α k
  show (evT T sc n v f fun a => evT T sc n up f fun j => ofO (intOf j) fun j => ofO (cut a 0 j) k).val = _
  refine (h _ _).trans ((h2 _ _).trans ?_)
  show (ofO (cut (.list xs) 0 j) k).val = _
  rw [hc]
  rfl
theorem evn_if {n : Nat} {t b o : Expr} {p : Pos} {c : Bool} {v : AV} (h : TrN T sc n t f c) (h2 : EvN T sc n (cond c b o) f v) : EvN T sc (n + 1) (.IfExp t b o p) f v := by
  intro α k
  show (trT T sc n t f fun c => cond c (evT T sc n b f k) (evT T sc n o f k)).val = _
  refine (h _ _).trans ?_
  cases c with
  | true => exact h2 _ k
  | false => exact h2 _ k
theorem evn_len {n : Nat} {p p' : Pos} {e : Expr} {xs : List AV} (hg : sc.names.lookup (Str.ofString "len") = some .globalImplicit) (hc : canG T (Str.ofString "len") = true) (hT : T.fn (Str.ofString "len") = none ∧ T.nat (Str.ofString "len") = none) (ha : isEv e = true) (h : EvN T sc (n + 1) e f (.list xs)) (hl : xs.length ≤ 1048576) :
    EvN T sc (n + 3) (.Call (.Name (Str.ofString "len") p) [e] [] p') f (.int (xs.length : Int)) := by
  refine evn_call hg hc (by show (isEv e && true) = true; rw [ha]; rfl) (evsn_1 h) fun _ k => bltN hT.1 hT.2 ?_
  show (Qt.need (decide (xs.length ≤ 1048576)) (k (.int xs.length))).val = _
  rw [decide_eq_true hl]
  rfl
theorem exs_assign {n : Nat} {x : Str} {px p : Pos} {e : Expr} {v : AV} (hx : sc.names.lookup x = some .local) (hn : isNil e = false) (ho : f.o = none) (h : EvN T sc n e f v) : exs T sc (n + 2) [.Assign [.Name x px] e p] f = some (.next (f.set x v)) := by
  show (if sc.names.lookup x = some .local then cond (isNil e) (match f.o with
          | some _ => .fail
          | none => exsT T sc (n + 1) [] (f.putOwn x []) .done)
        (evT T sc n e f fun v => if f.o.isNone = true ∨ flat v = true then exsT T sc (n + 1) [] (f.set x v) .done else .fail) else .fail).val = _
  rw [if_pos hx, hn]
  refine (h _ _).trans ?_
  show (if f.o.isNone = true ∨ flat v = true then exsT T sc (n + 1) [] (f.set x v) .done else .fail).val = _
  rw [if_pos (.inl (by rw [ho]; rfl))]
  rfl
end
/-- the script's numbers -/
noncomputable def ias (as : List Int) : List AV := as.map .int
noncomputable def numsOf (as : List Int) : List Int := if as = [] then [0, 2, 1] else as.take 12
theorem s1_shape : ∃ p1 p2 p3 p4 p5 p6 p7 p8 p9 p10 p11 p12 p13 p14, lawF.body.take 1 = [.Assign [.Name "numbers" p1] (.IfExp (.Compare (.Name "script" p2) [.NotEq] [.List [] p3] p4) (.Subscript (.Name "script" p5) (.Slice none (some (.Constant (.int 12) 0 p6)) none p7) p8) (.List [.Constant (.int 0) 0 p9, .Constant (.int 2) 0 p10, .Constant (.int 1) 0 p11] p12) p13) p14] := ⟨_, _, _, _, _, _, _, _, _, _, _, _, _, _, rfl⟩
theorem dbg : ((Str.ofString "script") == ("__debug__" : Str)) = false ∧ ((Str.ofString "numbers") == ("__debug__" : Str)) = false ∧ ((Str.ofString "drawn") == ("__debug__" : Str)) = false ∧ ((Str.ofString "row") == ("__debug__" : Str)) = false ∧ ((Str.ofString "number") == ("__debug__" : Str)) = false ∧ ((Str.ofString "ahead") == ("__debug__" : Str)) = false ∧ ((Str.ofString "there") == ("__debug__" : Str)) = false := by decide +kernel
theorem ias_nil (as : List Int) : intsOf (ias as) = some as := ints_map as
theorem cmp_nil (as : List Int) : cmp .NotEq (.list (ias as)) (.list []) = some (as != []) := by
  show (intsOf (ias as)).bind (fun x => (intsOf []).bind fun y => cmpL .NotEq x y) = _
  rw [ias_nil]
  rfl
theorem cut_12 {xs : List AV} (h : xs.length ≤ 1048576) : cut (.list xs) 0 12 = some (.list (xs.take 12)) := by
  show (if 0 ≤ (0 : Int) ∧ (0 : Int) ≤ 12 ∧ xs.length ≤ 1048576 then some (AV.list ((xs.drop (0 : Int).toNat).take ((12 : Int).toNat - (0 : Int).toNat))) else none) = _
  rw [if_pos ⟨by decide, by decide, h⟩]
  rfl
theorem small63 {n : Nat} (h : n ≤ 63) : n ≤ 1048576 := Nat.le_trans h (by decide)
noncomputable def gS (as : List Int) : FS := ⟨[("script", .list (ias as)), ("numbers", .list (ias (numsOf as)))], none⟩
theorem s1_set (as : List Int) : (⟨[(Str.ofString "script", .list (ias as))], none⟩ : FS).set (Str.ofString "numbers") (.list (ias (numsOf as))) = gS as := by kernel_rfl
theorem s1_run {as : List Int} (hl : as.length ≤ 63) (n : Nat) : exs TW lawS (n + 10) (lawF.body.take 1) ⟨[(Str.ofString "script", .list (ias as))], none⟩ = some (.next (gS as)) := by
  obtain ⟨p1, p2, p3, p4, p5, p6, p7, p8, p9, p10, p11, p12, p13, p14, hb⟩ := s1_shape
  rw [hb, ← s1_set]
  obtain ⟨l1, l2, _⟩ := law_loc
  have hs : (⟨[(Str.ofString "script", .list (ias as))], none⟩ : FS).get (Str.ofString "script") = some (.list (ias as)) := by kernel_rfl
  generalize hf : (⟨[(Str.ofString "script", .list (ias as))], none⟩ : FS) = f at *
  have ho : f.o = none := by rw [← hf]
  have hS : ∀ (m : Nat) (p : Pos), EvN TW lawS (m + 1) (.Name (Str.ofString "script") p) f (.list (ias as)) := fun m p => evn_name l1 dbg.1 hs
  have hl' : (ias as).length ≤ 1048576 := by rw [show (ias as).length = as.length by simp [ias]]; exact small63 hl
  refine exs_assign (n := n + 8) l2 rfl ho ?_
  have ht : TrN TW lawS (n + 7) (.Compare (.Name (Str.ofString "script") p2) [.NotEq] [.List [] p3] p4) f (as != []) := by
    intro α k
    show (evT TW lawS (n + 6) (.Name (Str.ofString "script") p2) f fun a => evT TW lawS (n + 6) (.List [] p3) f fun b => ofO (cmp .NotEq a b) fun c => .ask c (k true) (k false)).val = _
    refine (hS _ _ _ _).trans ?_
    show (ofO (cmp .NotEq (.list (ias as)) (.list [])) fun c => Qt.ask c (k true) (k false)).val = _
    rw [cmp_nil]
    show (Qt.ask (as != []) (k true) (k false)).val = _
    cases as != [] <;> rfl
  refine evn_if ht ?_
  by_cases he : as = []
  · subst he
    exact fun α k => rfl
  · rw [show (as != []) = true by simp [he]]
    refine evn_cut (j := 12) (hS _ _) (fun α k => rfl) ?_
    rw [cut_12 hl', numsOf, if_neg he]
    simp [ias]
/-- the figure of a number -/
noncomputable def figI (a : Int) : Int := if a.fmod 4 < 2 then 62 + a.fmod 4 else (a.fdiv 4).fmod 64
noncomputable def figN (a : Int) : Nat := (figI a).toNat
theorem fig_ok (a : Int) : figI a = ((figN a : Nat) : Int) ∧ figN a < 64 := by
  unfold figN figI
  rw [Int.fmod_eq_emod_of_nonneg _ (by decide), Int.fmod_eq_emod_of_nonneg _ (by decide)]
  split <;> lia
noncomputable def dP : Expr × Expr × Scope := ((one ((lawF.body.drop 1).take 1)).bind fun s => (assignOf s).bind fun e => compOf e.2).getD noParts
noncomputable def dE : Expr := dP.1
noncomputable def dS : Scope := dP.2.2
theorem s2_shape : ∃ pa px pb pos spos, (lawF.body.drop 1).take 1 = [.Assign [.Name "drawn" pa] (.ListComp dE [⟨.Name "x" px, .Name "numbers" pb, [], 0⟩] dS pos) spos] ∧ (pa.line == pos.line) = true := ⟨_, _, _, _, _, rfl, rfl⟩
theorem dS_wf : CompWf dS "x" := ⟨by decide +kernel, by decide +kernel, by kernel_rfl, by decide +kernel, by kernel_rfl⟩
theorem dE_t (a : Int) : Qt.go [true] [] [] (evT TW dS 110 dE ⟨[("x", .int a)], none⟩ .done) = some ((true, [decide (a.fmod 4 < 2)]), [], [], .int (62 + a.fmod 4)) := by kernel_rfl
theorem dE_f (a : Int) : Qt.go [false] [] [] (evT TW dS 110 dE ⟨[("x", .int a)], none⟩ .done) = some ((true, [decide (a.fmod 4 < 2)]), [], [], .int ((a.fdiv 4).fmod 64)) := by kernel_rfl
theorem dE_ok (a : Int) : ev TW dS 110 dE ⟨[("x", .int a)], none⟩ = some (.int (figI a)) := by
  unfold figI
  by_cases h : a.fmod 4 < 2
  · rw [if_pos h]
    exact ev_go (dE_t a) rfl (by rw [decide_eq_true h]) rfl rfl
  · rw [if_neg h]
    exact ev_go (dE_f a) rfl (by rw [decide_eq_false h]) rfl rfl
theorem dMap (as : List Int) : evMap TW dS 110 "x" dE as (avs (as.map figN)) := by
  refine ⟨by rw [ints_len', List.length_map], fun i a e => ⟨_, ?_, dE_ok a, rfl⟩⟩
  show ((as.map figN).map fun (f : Nat) => AV.int (f : Int))[i]? = _
  rw [List.getElem?_map, List.getElem?_map, e, (fig_ok a).1]
  rfl
end Mine
end
/- R25 -/
section
open PySem PySem.W PyProof.Rows
set_option Elab.async false
set_option linter.unusedVariables false
set_option linter.unusedSimpArgs false
namespace Mine
set_option maxRecDepth 100000
theorem neg_ok (n : Nat) (a : Int) (α : Type) (k : AV → Qt α) : (callT TW (n + 10) negF [.int a] k).val = (k (.int (-a))).val := by kernel_rfl
theorem mod_ok (n : Nat) (a : Int) (α : Type) (k : AV → Qt α) : (callT TW (n + 10) modF [.int a, .int 4] k).val = (k (.int (a.fmod 4))).val := by kernel_rfl
theorem lt_shape : ∃ pa pb pc pr, ltF.body = [.Return (some (.Compare (.Name "a" pa) [.Lt] [.Name "b" pb] pc)) pr] := ⟨_, _, _, _, rfl⟩
theorem lt_ps : ltF.ps = [Str.ofString "a", Str.ofString "b"] ∧ ltF.fd.scope.names.lookup (Str.ofString "a") = some .local ∧ ltF.fd.scope.names.lookup (Str.ofString "b") = some .local := ⟨by kernel_rfl, by kernel_rfl, by kernel_rfl⟩
section
variable {T : Tab} {sc : Scope} {f : FS}
theorem ret_lt {n : Nat} {x y : Str} {pa pb pc pr : Pos} {u v : AV} {c : Bool} (e1 : EvN T sc (n + 1) (.Name x pa) f u) (e2 : EvN T sc (n + 1) (.Name y pb) f v) (h : cmp .Lt u v = some c) (α : Type) (k : Out → Qt α) :
    (exsT T sc (n + 4) [.Return (some (.Compare (.Name x pa) [.Lt] [.Name y pb] pc)) pr] f k).val = (k (.ret (.bool c))).val := by
  show (evT T sc (n + 1) (.Name x pa) f fun a => evT T sc (n + 1) (.Name y pb) f fun b => ofO (cmp .Lt a b) fun c => k (.ret (.bool c))).val = _
  refine (e1 _ _).trans ((e2 _ _).trans ?_)
  show (ofO (cmp .Lt u v) fun c => k (.ret (.bool c))).val = _
  rw [h]
  rfl
theorem call_of {n : Nat} {F : Fn} {xs : List AV} {ps : List Str} {b : List Stmt} {r : AV} (hp : F.ps = ps) (hl : xs.length = ps.length) (hb : F.body = b) (h : ∀ (α : Type) (k : Out → Qt α), (exsT T F.fd.scope n b ⟨(ps.zip xs).reverse, none⟩ k).val = (k (.ret r)).val) (α : Type) (k : AV → Qt α) : (callT T (n + 1) F xs k).val = (k r).val := by
  show (if xs.length = F.ps.length then exsT T F.fd.scope n F.body ⟨(F.ps.zip xs).reverse, none⟩ fun o => (match o with
        | .ret v => k v
        | .next _ => k .none
        | _ => .fail)
    else .fail).val = _
  rw [hp, if_pos hl, hb]
  exact h _ _
theorem evn_addL {n : Nat} {l r : Expr} {p : Pos} {xs ys : List AV} (h : EvN T sc n l f (.list xs)) (h2 : EvN T sc n r f (.list ys)) (hs : xs.length + ys.length ≤ 1048576) : EvN T sc (n + 1) (.BinOp l .Add r p) f (.list (xs ++ ys)) := by
  intro α k
  show (evT T sc n l f fun a => evT T sc n r f fun b => binT .Add a b k).val = _
  refine (h _ _).trans ((h2 _ _).trans ?_)
  show (Qt.need (decide (xs.length + ys.length ≤ 1048576)) (k (.list (xs ++ ys)))).val = _
  rw [decide_eq_true hs]
  rfl
theorem evn_timesL {n : Nat} {l r : Expr} {p : Pos} {xs : List AV} {i : Nat} (h : EvN T sc n l f (.list xs)) (h2 : EvN T sc n r f (.int (i : Int))) (hs : i ≤ 1000 ∧ xs.length ≤ 1000) : EvN T sc (n + 1) (.BinOp l .Mult r p) f (.list (List.replicate i xs).flatten) := by
  intro α k
  show (evT T sc n l f fun a => evT T sc n r f fun b => binT .Mult a b k).val = _
  refine (h _ _).trans ((h2 _ _).trans ?_)
  show (Qt.need (decide (0 ≤ (i : Int) ∧ (i : Int) ≤ 1000 ∧ xs.length ≤ 1000)) (k (.list (List.replicate (i : Int).toNat xs).flatten))).val = _
  rw [decide_eq_true ⟨by lia, by lia, hs.2⟩]
  rfl
theorem evn_pred {n : Nat} {l : Expr} {p p1 : Pos} {m k1 : Nat} (h : EvN T sc (n + 1) l f (.int ((m : Nat) : Int))) (hm : 0 < m) : EvN T sc (n + 2) (.BinOp l .Sub (.Constant (.int 1) k1 p1) p) f (.int ((m - 1 : Nat) : Int)) := by
  intro α k
  show (evT T sc (n + 1) l f fun a => int2 a (.int 1) fun i j => k (.int (i - j))).val = _
  refine (h _ _).trans ?_
  show (k (.int (((m : Nat) : Int) - 1))).val = _
  rw [show ((m : Nat) : Int) - 1 = ((m - 1 : Nat) : Int) by lia]
theorem evn_zero {n k : Nat} {p0 p1 : Pos} : EvN T sc (n + 3) (.List [.Constant (.int 0) k p0] p1) f (.list [.int 0]) := fun α k => rfl
theorem trn_of {n : Nat} {x : Expr} {y : List Expr} {z : List Keyword} {p : Pos} {c : Bool} (h : EvN T sc n (.Call x y z p) f (.bool c)) : TrN T sc (n + 1) (.Call x y z p) f c := by
  intro α k
  show (evT T sc n (.Call x y z p) f fun a => ofO (truth a) fun c => .ask c (k true) (k false)).val = _
  refine (h _ _).trans ?_
  show (Qt.ask c (k true) (k false)).val = _
  cases c <;> rfl
theorem trn_cmp {n : Nat} {l r : Expr} {op : CmpOp} {p : Pos} {u v : AV} {c : Bool} (hr : isEv r = true) (h : EvN T sc n l f u) (h2 : EvN T sc n r f v) (hc : cmp op u v = some c) : TrN T sc (n + 1) (.Compare l [op] [r] p) f c := by
  intro α k
  show (if isEv r = true then evT T sc n l f fun a => evT T sc n r f fun b => ofO (cmp op a b) fun c => .ask c (k true) (k false) else .fail).val = _
  rw [if_pos hr]
  refine (h _ _).trans ((h2 _ _).trans ?_)
  show (ofO (cmp op u v) fun c => Qt.ask c (k true) (k false)).val = _
  rw [hc]
  show (Qt.ask c (k true) (k false)).val = _
  cases c <;> rfl
theorem trn_not {n : Nat} {e : Expr} {p : Pos} {c : Bool} (h : TrN T sc n e f c) : TrN T sc (n + 1) (.UnaryOp .Not e p) f (!c) := by
  intro α k
  show (trT T sc n e f fun b => k (!b)).val = _
  exact h _ _
theorem trn_or1 {n : Nat} {e : Expr} {p : Pos} (h : TrN T sc (n + 1) e f false) : TrN T sc (n + 2) (.BoolOp .Or [e] p) f false := by
  intro α k
  show (trT T sc (n + 1) e f fun c => cond c (k true) (k false)).val = _
  exact h _ _
end
theorem lt_get (u v : AV) : (⟨(([Str.ofString "a", Str.ofString "b"] : List Str).zip [u, v]).reverse, none⟩ : FS).get (Str.ofString "a") = some u ∧ (⟨(([Str.ofString "a", Str.ofString "b"] : List Str).zip [u, v]).reverse, none⟩ : FS).get (Str.ofString "b") = some v := ⟨by kernel_rfl, by kernel_rfl⟩
theorem lt_dbg : ((Str.ofString "a") == ("__debug__" : Str)) = false ∧ ((Str.ofString "b") == ("__debug__" : Str)) = false := by decide +kernel
theorem lt_go {u v : AV} {c : Bool} (h : cmp .Lt u v = some c) (n : Nat) (α : Type) (k : AV → Qt α) : (callT TW (n + 10) ltF [u, v] k).val = (k (.bool c)).val := by
  obtain ⟨hps, l1, l2⟩ := lt_ps
  obtain ⟨pa, pb, pc, pr, heq⟩ := lt_shape
  exact call_of hps rfl heq (fun β j => ret_lt (n := n + 5) (evn_name l1 lt_dbg.1 (lt_get u v).1) (evn_name l2 lt_dbg.2 (lt_get u v).2) h β j) α k
theorem ints_avs (r : List Nat) : intsOf (avs r) = some (r.map fun (f : Nat) => (f : Int)) := by
  have := ints_map (r.map fun (f : Nat) => (f : Int))
  rwa [List.map_map] at this
theorem ltL_less : ∀ a b : List Nat, ltL (a.map fun (f : Nat) => (f : Int)) (b.map fun (f : Nat) => (f : Int)) = less a b
  | [], [] => rfl
  | [], _ :: _ => rfl
  | _ :: _, [] => rfl
  | x :: a, y :: b => by
    simp only [List.map_cons, ltL, less, ltL_less a b]
    by_cases h : x = y
    · rw [if_pos h, if_pos (by rw [h])]
    · rw [if_neg h, if_neg (by lia)]
      simp
theorem cmp_lt (a b : List Nat) : cmp .Lt (.list (avs a)) (.list (avs b)) = some (less a b) := by
  show (intsOf (avs a)).bind (fun x => (intsOf (avs b)).bind fun y => cmpL .Lt x y) = _
  rw [ints_avs, ints_avs]
  show some (ltL _ _) = _
  rw [ltL_less]
theorem map_eq (a b : List Nat) : ((a.map fun (f : Nat) => (f : Int)) == (b.map fun (f : Nat) => (f : Int))) = decide (a = b) := by
  by_cases h : a = b
  · subst h; simp
  · rw [decide_eq_false h]
    rw [beq_eq_false_iff_ne]
    intro e
    exact h (List.map_inj_right (fun x y hxy => by lia) |>.mp e)
theorem cmp_eq (a b : List Nat) : cmp .Eq (.list (avs a)) (.list (avs b)) = some (decide (a = b)) := by
  show (intsOf (avs a)).bind (fun x => (intsOf (avs b)).bind fun y => cmpL .Eq x y) = _
  rw [ints_avs, ints_avs]
  show some ((a.map fun (f : Nat) => (f : Int)) == (b.map fun (f : Nat) => (f : Int))) = _
  rw [map_eq]
/-- the row: noughts behind up to whole fours -/
noncomputable def padN (n : Nat) : Nat := (4 - n % 4) % 4
noncomputable def padR (fs : List Nat) : List Nat := fs ++ List.replicate (padN fs.length) 0
theorem pad_len {fs : List Nat} (h0 : 0 < fs.length) (hl : fs.length ≤ 12) : (padR fs).length = 4 ∨ (padR fs).length = 8 ∨ (padR fs).length = 12 := by
  simp only [padR, padN, List.length_append, List.length_replicate]; lia
theorem pad_lt {fs : List Nat} (h : ∀ f ∈ fs, f < 64) : ∀ f ∈ padR fs, f < 64 := by
  intro f hf
  rcases List.mem_append.mp hf with q | q
  · exact h f q
  · rw [List.eq_of_mem_replicate q]; decide
theorem fmod_neg (n : Nat) : (-(n : Int)).fmod 4 = ((padN n : Nat) : Int) := by
  rw [Int.fmod_eq_emod_of_nonneg _ (by decide)]
  unfold padN; lia
theorem noughts (k : Nat) : (List.replicate k [AV.int 0]).flatten = avs (List.replicate k 0) := by
  induction k with
  | zero => rfl
  | succ k ih => simp only [List.replicate_succ, List.flatten_cons, ih]; rfl
theorem avs_appL (a b : List Nat) : avs a ++ avs b = avs (a ++ b) := by simp [avs]
theorem s3_shape : ∃ pa pb p0 p1 pc pd pe pg p2 p3 p4 p5 p6 p7 p8, (lawF.body.drop 2).take 1 = [.Assign [.Name "row" pa] (.BinOp (.Name "drawn" pb) .Add (.BinOp (.List [.Constant (.int 0) 0 p0] p1) .Mult (.Call (.Name "mod" pc) [.Call (.Name "neg" pd) [.Call (.Name "len" pe) [.Name "drawn" pg] [] p2] [] p3, .Constant (.int 4) 0 p4] [] p5) p6) p7) p8] := ⟨_, _, _, _, _, _, _, _, _, _, _, _, _, _, _, rfl⟩
theorem s3_run {fs : List Nat} (hl : fs.length ≤ 12) {f : FS} (ho : f.o = none) (hg : f.get (Str.ofString "drawn") = some (.list (avs fs))) (n : Nat) :
    exs TW lawS (n + 34) ((lawF.body.drop 2).take 1) f = some (.next (f.set (Str.ofString "row") (.list (avs (padR fs))))) := by
  obtain ⟨pa, pb, p0, p1, pc, pd, pe, pg, p2, p3, p4, p5, p6, p7, p8, hb⟩ := s3_shape
  rw [hb]
  obtain ⟨l1, l2, l3, l4, l5, l6, l7⟩ := law_loc
  obtain ⟨d1, d2, d3, d4, d5, d6, d7⟩ := dbg
  obtain ⟨g1, g2, g3, g4, g5, g6, g7⟩ := law_glob
  obtain ⟨f1, f2, f3⟩ := law_fns
  obtain ⟨c1, c2, c3, c4, c5, c6⟩ := can
  have hD : ∀ m p, EvN TW lawS (m + 1) (.Name (Str.ofString "drawn") p) f (.list (avs fs)) := fun m p => evn_name l3 d3 hg
  have hlen : (avs fs).length ≤ 1048576 := by rw [ints_len']; exact small63 (by lia)
  have hLen := evn_len (p := pe) (p' := p2) g6 c6 law_len rfl (hD (n + 23) pg) hlen
  rw [ints_len'] at hLen
  have hNeg : EvN TW lawS (n + 28) (.Call (.Name (Str.ofString "neg") pd) [.Call (.Name (Str.ofString "len") pe) [.Name (Str.ofString "drawn") pg] [] p2] [] p3) f (.int (-((fs.length : Nat) : Int))) :=
    evn_call g2 c2 rfl (evsn_1 hLen) fun α k => by rw [f2]; exact neg_ok (n + 17) _ α k
  have hMod : EvN TW lawS (n + 30) (.Call (.Name (Str.ofString "mod") pc) [.Call (.Name (Str.ofString "neg") pd) [.Call (.Name (Str.ofString "len") pe) [.Name (Str.ofString "drawn") pg] [] p2] [] p3, .Constant (.int 4) 0 p4] [] p5) f (.int ((padN fs.length : Nat) : Int)) :=
    evn_call g3 c3 rfl (evsn_2 (n := n + 26) (v := .int 4) hNeg fun α k => rfl) fun α k => by rw [f3, ← fmod_neg]; exact mod_ok (n + 19) _ α k
  have hp : padN fs.length < 4 := Nat.mod_lt _ (by decide)
  have hsz : (avs fs).length + (avs (List.replicate (padN fs.length) 0)).length ≤ 1048576 := by
    rw [ints_len', ints_len', List.length_replicate]
    exact small63 (by lia)
  have hM := evn_timesL (p := p6) (evn_zero (k := 0) (p0 := p0) (p1 := p1)) hMod ⟨by lia, by decide⟩
  rw [noughts] at hM
  have hA := evn_addL (p := p7) (hD (n + 30) pb) hM hsz
  rw [avs_appL] at hA
  exact exs_assign (n := n + 32) l4 rfl ho hA
end Mine
end
/- R26 -/
section
open PySem PySem.W PyProof.Rows
set_option Elab.async false
set_option linter.unusedVariables false
set_option linter.unusedSimpArgs false
namespace Mine
set_option maxRecDepth 100000
theorem numK_ok {r : List Nat} (hl : r.length ≤ 12) (hf : ∀ f ∈ r, f < 64) : numK [.list (avs r)] = some (.int ((rank 0 r : Nat) : Int)) := by
  show ((natsOf (avs r)).bind fun r => if r.length ≤ 12 then some (AV.int ((rank 0 r : Nat) : Int)) else none) = _
  rw [natsOf_avs r hf]
  show (if r.length ≤ 12 then some (AV.int ((rank 0 r : Nat) : Int)) else none) = _
  rw [if_pos hl]
theorem rowK_ok (n : Nat) {S : Nat} (hl : S ≤ 12) : rowK [.int (n : Int), .int (S : Int)] = some (.list (avs (unrank n 0 S))) := by
  show (if 0 ≤ (n : Int) ∧ 0 ≤ (S : Int) ∧ (S : Int) ≤ 12 then some (AV.list (avs (unrank (n : Int).toNat 0 (S : Int).toNat))) else none) = _
  rw [if_pos ⟨by lia, by lia, by lia⟩, Int.toNat_natCast, Int.toNat_natCast]
section
variable {f : FS} {r a b : List Nat}
theorem s4_shape : ∃ pa pb pc p1 p2, (lawF.body.drop 3).take 1 = [.Assign [.Name "number" pa] (.Call (.Name "_law_number" pb) [.Name "row" pc] [] p1) p2] := ⟨_, _, _, _, _, rfl⟩
theorem s4_run (hl : r.length ≤ 12) (hf : ∀ f ∈ r, f < 64) (ho : f.o = none) (hg : f.get (Str.ofString "row") = some (.list (avs r))) (n : Nat) :
    exs TW lawS (n + 114) ((lawF.body.drop 3).take 1) f = some (.next (f.set (Str.ofString "number") (.int ((rank 0 r : Nat) : Int)))) := by
  obtain ⟨pa, pb, pc, p1, p2, hb⟩ := s4_shape
  rw [hb]
  obtain ⟨l1, l2, l3, l4, l5, l6, l7⟩ := law_loc
  obtain ⟨d1, d2, d3, d4, d5, d6, d7⟩ := dbg
  exact exs_assign (n := n + 112) l5 rfl ho (evn_call law_glob.2.2.2.1 can.2.2.2.1 rfl (evsn_1 (n := n + 109) (evn_name l4 d4 hg)) fun _ k => natN law_nats.1 law_nats.2.2.1 (by lia) (numK_ok hl hf) k)
theorem lenN {p p' p'' : Pos} (hl : r.length ≤ 12) (hg : f.get (Str.ofString "row") = some (.list (avs r))) (n : Nat) : EvN TW lawS (n + 3) (.Call (.Name (Str.ofString "len") p) [.Name (Str.ofString "row") p'] [] p'') f (.int ((r.length : Nat) : Int)) := by
  have h := evn_len (n := n) (p := p) (p' := p'') law_glob.2.2.2.2.2.1 can.2.2.2.2.2 law_len rfl (evn_name (p := p') law_loc.2.2.2.1 dbg.2.2.2.1 hg) (by rw [ints_len']; exact small63 (by lia))
  rw [ints_len'] at h
  exact h
theorem sA_run {pa pb pc p1 p2 pd pe p3 p4 p5 : Pos} (hl : r.length ≤ 12) (hp : 0 < rank 0 r) (ho : f.o = none) (hg : f.get (Str.ofString "row") = some (.list (avs r))) (hn : f.get (Str.ofString "number") = some (.int ((rank 0 r : Nat) : Int))) (n : Nat) :
    exs TW lawS (n + 114) [.Assign [.Name "ahead" pa] (.Call (.Name "_law_row" pb) [.BinOp (.Name "number" pc) .Sub (.Constant (.int 1) 0 p1) p2, .Call (.Name "len" pd) [.Name "row" pe] [] p3] [] p4) p5] f = some (.next (f.set (Str.ofString "ahead") (.list (avs (unrank (rank 0 r - 1) 0 r.length))))) := by
  obtain ⟨l1, l2, l3, l4, l5, l6, l7⟩ := law_loc
  obtain ⟨d1, d2, d3, d4, d5, d6, d7⟩ := dbg
  exact exs_assign (n := n + 112) l6 rfl ho (evn_call law_glob.2.2.2.2.1 can.2.2.2.2.1 rfl (evsn_2 (n := n + 108) (evn_pred (evn_name l5 d5 hn) hp) (lenN hl hg (n + 106))) fun _ k => natN law_nats.2.1 law_nats.2.2.2 (by lia) (rowK_ok _ hl) k)
theorem s6_shape : ∃ pa pb pc pd pe p3 p4 p5, (lawF.body.drop 5).take 1 = [.Assign [.Name "there" pa] (.Call (.Name "_law_row" pb) [.Name "number" pc, .Call (.Name "len" pd) [.Name "row" pe] [] p3] [] p4) p5] := ⟨_, _, _, _, _, _, _, _, rfl⟩
theorem s6_run (hl : r.length ≤ 12) (ho : f.o = none) (hg : f.get (Str.ofString "row") = some (.list (avs r))) (hn : f.get (Str.ofString "number") = some (.int ((rank 0 r : Nat) : Int))) (n : Nat) :
    exs TW lawS (n + 114) ((lawF.body.drop 5).take 1) f = some (.next (f.set (Str.ofString "there") (.list (avs (unrank (rank 0 r) 0 r.length))))) := by
  obtain ⟨pa, pb, pc, pd, pe, p3, p4, p5, hb⟩ := s6_shape
  rw [hb]
  obtain ⟨l1, l2, l3, l4, l5, l6, l7⟩ := law_loc
  obtain ⟨d1, d2, d3, d4, d5, d6, d7⟩ := dbg
  exact exs_assign (n := n + 112) l7 rfl ho (evn_call law_glob.2.2.2.2.1 can.2.2.2.2.1 rfl (evsn_2 (n := n + 108) (evn_name l5 d5 hn) (lenN hl hg (n + 106))) fun _ k => natN law_nats.2.1 law_nats.2.2.2 (by lia) (rowK_ok _ hl) k)
/-- lt(x, row) -/
theorem trn_lt {x y : Str} {p1 p2 p3 p4 : Pos} (hx : lawS.names.lookup x = some .local) (dx : (x == ("__debug__" : Str)) = false) (hy : lawS.names.lookup y = some .local) (dy : (y == ("__debug__" : Str)) = false) (ha : f.get x = some (.list (avs a))) (hb : f.get y = some (.list (avs b))) (n : Nat) :
    TrN TW lawS (n + 20) (.Call (.Name (Str.ofString "lt") p1) [.Name x p2, .Name y p3] [] p4) f (less a b) :=
  trn_of (evn_call (n := n + 18) law_glob.1 can.1 rfl (evsn_2 (n := n + 15) (evn_name hx dx ha) (evn_name hy dy hb)) fun α k => by rw [law_fns.1]; exact lt_go (cmp_lt a b) (n + 8) α k)
/-- True if there == row else 'No closing quotation' -/
theorem evn_said {x y : Str} {t : Str} {p1 p2 p3 p4 p5 p6 : Pos} {k1 k2 : Nat} (hx : lawS.names.lookup x = some .local) (dx : (x == ("__debug__" : Str)) = false) (hy : lawS.names.lookup y = some .local) (dy : (y == ("__debug__" : Str)) = false) (ha : f.get x = some (.list (avs a))) (hb : f.get y = some (.list (avs b))) (n : Nat) :
    EvN TW lawS (n + 20) (.IfExp (.Compare (.Name x p1) [.Eq] [.Name y p2] p3) (.Constant (.bool true) k1 p4) (.Constant (.str t) k2 p5) p6) f (if a = b then .bool true else .str t) := by
  refine evn_if (n := n + 19) (trn_cmp (n := n + 18) rfl (evn_name hx dx ha) (evn_name hy dy hb) (cmp_eq a b)) ?_
  by_cases e : a = b
  · rw [if_pos e, decide_eq_true e]; exact fun α k => rfl
  · rw [if_neg e, decide_eq_false e]; exact fun α k => rfl
theorem trn_gt {x : Str} {m : Nat} {p1 p2 p3 : Pos} {k : Nat} (hx : lawS.names.lookup x = some .local) (dx : (x == ("__debug__" : Str)) = false) (ha : f.get x = some (.int ((m : Nat) : Int))) (n : Nat) :
    TrN TW lawS (n + 20) (.Compare (.Name x p1) [.Gt] [.Constant (.int 0) k p2] p3) f (decide (0 < m)) := by
  refine trn_cmp (n := n + 19) (v := .int 0) rfl (evn_name hx dx ha) (fun α k => rfl) ?_
  show some (decide (((m : Nat) : Int) > 0)) = _
  congr 1
  simp
end
end Mine
end
/- R27 -/
section
open PySem PySem.W PyProof.Rows PySem.Calls
set_option Elab.async false
set_option linter.unusedVariables false
set_option linter.unusedSimpArgs false
namespace Mine
set_option maxRecDepth 100000
theorem EvN.ev {T : Tab} {sc : Scope} {n : Nat} {e : Expr} {f : FS} {v : AV} (h : EvN T sc n e f v) : ev T sc n e f = some v := h _ .done
theorem TrN.tr {T : Tab} {sc : Scope} {n : Nat} {e : Expr} {f : FS} {v : Bool} (h : TrN T sc n e f v) : tr T sc n e f = some v := h _ .done
theorem MvU.vw {s s' : Shared} (a : MvU [] s s') (hid : List Addr) : UpTo (vw s.heap hid) (vw s'.heap hid) := fun b o e n => by
  have q := vw_some e
  rw [vw_get q.2]
  exact a.keep b o List.not_mem_nil q.1 n
theorem MvU.frames {s s' : Shared} {base : Heap} {l : List Env} (a : MvU [] s s') (f : s.heap.FunFrames base l) : s'.heap.FunFrames base l := by
  induction l with
  | nil => trivial
  | cons env rest ih =>
    obtain ⟨hk, ⟨L, o, hf, hn, ho, hd⟩, hr⟩ := f
    obtain ⟨sl, ho'⟩ := a.keep L o List.not_mem_nil ho hd
    exact ⟨hk, ⟨L, _, hf, hn, ho', hd⟩, ih hr⟩
theorem Stk.up {A : Around} {B : Heap} {l : List Env} {s s' : Shared} (x : Stk A B l s.heap) (m : MvU [] s s') : Stk A B l s'.heap := ⟨x.fr, m.frames x.fun_⟩
theorem FrameAt.up {g : Heap} {L : Addr} {oa : Option Addr} {f : FS} {s s' : Shared} (F : FrameAt g [] L oa f s.heap) (ho : f.o = none) (m : MvU [] s s') (st : g.StaysIn s'.heap) : FrameAt g [] L none f s'.heap := by
  obtain ⟨mm, hm, hl⟩ := F.ns
  rw [ho] at hl
  cases oa with
  | some a => exact hl.elim
  | none =>
    refine ⟨⟨fun b hb => absurd hb List.not_mem_nil, List.not_mem_nil, fun b o e => st b o e, mm, m.ns' List.not_mem_nil hm, ?_⟩, F.newL⟩
    rw [ho]
    intro x v e
    obtain ⟨u, h1, h2⟩ := hl x v e
    exact ⟨u, h1, h2.up (m.vw _)⟩
theorem FrameAt.less {g : Heap} {L : Addr} {oa : Option Addr} {G f : FS} {h : Heap} (F : FrameAt g [] L oa f h) (s : Sub G f) (hG : G.o = none) : FrameAt g [] L none G h := by
  cases F.no_own (s.o.trans hG)
  exact F.sub s
/-- the rest of the state stays -/
noncomputable def Sh (s s' : Shared) : Prop := ∃ h t, s' = { s with heap := h, toks := t }
theorem Sh.refl (s : Shared) : Sh s s := ⟨_, _, rfl⟩
theorem Sh.trans {s s' s'' : Shared} (a : Sh s s') (b : Sh s' s'') : Sh s s'' := by
  obtain ⟨h, t, rfl⟩ := a
  obtain ⟨h', t', rfl⟩ := b
  exact ⟨h', t', rfl⟩
theorem sh_keeps {s s' : Shared} (k : Keeps s s') : Sh s s' := let ⟨h, t, e, _⟩ := k; ⟨h, t, e⟩
theorem sh_kb {W : List Addr} {s s' : Shared} (k : KB W s s') : Sh s s' := let ⟨h, t, e, _⟩ := k; ⟨h, t, e⟩
theorem KB.mv {L : Addr} {s s' : Shared} {m : Str → Option Value} (k : KB [L] s s') (hn : s'.heap.Ns L m) : Mv [L] s s' := by
  refine ⟨sh_kb k, fun b o n e => k.heap b o n e, fun b o e n => ?_⟩
  by_cases q : b = L
  · subst q
    obtain ⟨o', es, ep, e', d', _⟩ := hn
    exact ⟨o', e', fun vs z => by rw [d'] at z; cases z⟩
  · exact ⟨o, k.heap b o (fun z => q (List.mem_singleton.mp z)) e, n⟩
section
variable {prog : Program} {w : World} {B : Heap}
/-- statements of the law -/
theorem law_step (Fd : Found w B) (lim : B.NoLimit) {n : Nat} {sts rest : List Stmt} {f f' G : FS} {A : Around} {env : Env} {L : Addr} {l : List Env} {s : Shared} {Q : Flow → Shared → Prop} {E : Value → Shared → Prop} (c : Cx A n) (ei : EnvIs env lawS L) (sk : Stk A B (env :: l) s.heap) (F : FrameAt B [] L none f s.heap)
    (hex : exs TW lawS n sts f = some (.next f')) (sub : Sub G f') (hG : G.o = none) (k : ∀ s', FrameAt B [] L none G s'.heap → Stk A B (env :: l) s'.heap → Sh s s' → wpAny (model prog w) A (execs rest env) Q E s') : wpAny (model prog w) A (execs (sts ++ rest) env) Q E s := by
  refine exs_then (topIs (nat := natW) Fd lim) (natTW (prog := prog) Fd lim) ei hex c F fun s' oa' F' kb ow => ?_
  obtain ⟨m, hm, _⟩ := F'.ns
  exact k s' (F'.less sub hG) (sk.mv (kb.mv hm)) (sh_kb kb)
/-- a call of _law_told in the law -/
theorem told_call (Fd : Found w B) (lim : B.NoLimit) {r : List Nat} (hl : r.length = 4 ∨ r.length = 8 ∨ r.length = 12) (hr : ∀ f ∈ r, f < 64) {A : Around} {env : Env} {L : Addr} {l : List Env} {f : FS} {s : Shared} {x : Str} {p1 p2 p3 : Pos} {Q E : Value → Shared → Prop} (c : Cx A 160) (ei : EnvIs env lawS L) (sk : Stk A B (env :: l) s.heap) (up : B.objs.size ≤ L)
    (F : FrameAt B [] L none f s.heap) (ho : f.o = none) (hx : lawS.names.lookup x = some .local) (dx : (x == ("__debug__" : Str)) = false) (hg : f.get x = some (.list (avs r)))
    (hQ : ∀ u s', FrameAt B [] L none f s'.heap → Stk A B (env :: l) s'.heap → Sh s s' → Den (fun _ => none) u (if good 0 r = true then .bool true else .str msgS) → Q u s') :
    wpAny (model prog w) A (eval (.Call (.Name "_law_told" p1) [.Name x p2] [] p3) env) Q E s := by
  obtain ⟨m, mb, hgm, hbn, hfn, hbl, _⟩ := Fd.names
  have hto : m (Str.ofString "_law_told") = some (.ref 881) := hfn (rowAt 23) (rowAt_mem 23 (by decide))
  obtain ⟨ot, hot, hdt, _⟩ := (Fd.rowAt (i := 23) (by decide) : FnAt B toldF).obj
  have hot : B.get? 881 = some ot := told_fwf.2.2.2 ▸ (show B.get? toldF.a = some ot from hot)
  have ok := allTW (prog := prog) Fd lim 10
  refine Call_ (nameG_ok law_glob.2.2.2.2.2.2 (by decide +kernel) hgm hbn (.inl hto) ei F.top (callWith_def hdt (args_cons ?_ rfl)))
  refine wpAny_mono (ok.ev _ _ _ _ (evn_name (n := 9) hx dx hg).ev _ _ _ _ none _ _ (c.mono (by lia)) ei F.toFrameW) (fun v2 s2 h2 => ?_) fun _ _ z => z
  obtain ⟨k12, d2⟩ := h2
  have F2 := F.ex k12
  have sk2 : Stk A B (env :: l) s2.heap := sk.mv (Mv.of_keeps (W := []) k12)
  refine args_nil ⟨F2.top _ _ hot, ?_⟩
  have up2 : B.objs.size ≤ s2.heap.objs.size := by
    obtain ⟨m2, ⟨oL, es, ep, eL, _⟩, _⟩ := F2.ns
    exact Nat.le_trans up (Nat.le_of_lt (Heap.lt_size eL))
  refine told_walk Fd lim hl hr c sk2 F2.top up2 (d2.mono (vw_mono (fun _ _ e => e) fun b hb => absurd hb List.not_mem_nil)) fun u s3 st3 mu g1 g2 => ?_
  refine hQ u s3 (F2.up ho mu st3) (sk2.up mu) ((sh_keeps k12).trans mu.eq) ?_
  by_cases g : good 0 r = true
  · rw [if_pos g, g1 g]; exact .bool _
  · rw [if_neg g]
    obtain ⟨tk, rfl⟩ := g2 (by simpa using g)
    exact .str _ _
end
end Mine
end
/- R28 -/
section
open PySem PySem.W PyProof.Rows PySem.Calls
set_option Elab.async false
set_option linter.unusedVariables false
set_option linter.unusedSimpArgs false
namespace Mine
set_option maxRecDepth 100000
section
variable {prog : Program} {w : World} {B : Heap}
/-- the test of a row that is let pass -/
theorem told_true (Fd : Found w B) (lim : B.NoLimit) {r : List Nat} (hl : r.length = 4 ∨ r.length = 8 ∨ r.length = 12) (hr : ∀ f ∈ r, f < 64) (hgood : good 0 r = true) {A : Around} {env : Env} {L : Addr} {l : List Env} {f : FS} {s : Shared} {x : Str} {p1 p2 p3 p4 p5 p6 : Pos} {k : Nat} {tl : List Expr} {Q : Bool → Shared → Prop} {E : Value → Shared → Prop} (c : Cx A 160) (ei : EnvIs env lawS L) (sk : Stk A B (env :: l) s.heap) (up : B.objs.size ≤ L)
    (F : FrameAt B [] L none f s.heap) (ho : f.o = none) (hx : lawS.names.lookup x = some .local) (dx : (x == ("__debug__" : Str)) = false) (hg : f.get x = some (.list (avs r)))
    (ht : tr TW lawS 40 (.BoolOp .Or tl p6) f = some false)
    (hQ : ∀ s', FrameAt B [] L none f s'.heap → Stk A B (env :: l) s'.heap → Sh s s' → Q false s') :
    wpAny (model prog w) A (isTrue (.BoolOp .Or (.Compare (.Call (.Name "_law_told" p1) [.Name x p2] [] p3) [.NotEq] [.Constant (.bool true) k p4] p5 :: tl) p6) env (eval (.BoolOp .Or (.Compare (.Call (.Name "_law_told" p1) [.Name x p2] [] p3) [.NotEq] [.Constant (.bool true) k p4] p5 :: tl) p6) env)) Q E s := by
  have ok := allTW (prog := prog) Fd lim 40
  refine isTrue_or (wpAny_isTrue_Compare1 (told_call Fd lim hl hr c ei sk up F ho hx dx hg fun u s1 F1 sk1 sh1 du => ?_) rfl)
  rw [if_pos hgood] at du
  refine wpAny_mono (const_ok (hid := []) (r := .bool true) rfl) (fun v s2 h2 => ?_) fun _ _ z => z
  obtain ⟨k2, d2⟩ := h2
  have hc : cmp .NotEq (.bool true) (.bool true) = some false := rfl
  refine wpAny_mono (cmpAll_ok (hid := []) c.hand (by have := c.units; lia) hc (du.mono fun _ _ z => by cases z) d2) (fun v3 s3 h3 => ?_) fun _ _ z => z
  obtain ⟨rfl, k3⟩ := h3
  refine wpAny_truthy_bool ?_
  have k13 := kp_trans k2 k3
  have F3 := F1.ex k13
  have sk3 : Stk A B (env :: l) s3.heap := sk1.mv (Mv.of_keeps (W := []) k13)
  rw [if_neg (by decide)]
  refine wpAny_mono (ok.tr _ _ _ _ ht _ _ _ _ none _ _ (c.mono (by lia)) ei F3.toFrameW) (fun b s4 h4 => ?_) fun _ _ z => z
  obtain ⟨rfl, k4⟩ := h4
  exact hQ s4 (F3.ex k4) (sk3.mv (Mv.of_keeps (W := []) k4)) ((sh1.trans (sh_keeps k13)).trans (sh_keeps k4))
theorem s5_shape : ∃ pa p0 p1 a1 a2 a3 a4 a5 a6 a7 a8 a9 a10 pb pc p2 p3 p4 pd pe pg p5 p6 p7 p8 p9 p10 p11, (lawF.body.drop 4).take 1 = [.If (.Compare (.Name "number" pa) [.Gt] [.Constant (.int 0) 0 p0] p1) [.Assign [.Name "ahead" a1] (.Call (.Name "_law_row" a2) [.BinOp (.Name "number" a3) .Sub (.Constant (.int 1) 0 a4) a5, .Call (.Name "len" a6) [.Name "row" a7] [] a8] [] a9) a10,
    .If (.BoolOp .Or [.Compare (.Call (.Name "_law_told" pb) [.Name "ahead" pc] [] p2) [.NotEq] [.Constant (.bool true) 0 p3] p4, .UnaryOp .Not (.Call (.Name "lt" pd) [.Name "ahead" pe, .Name "row" pg] [] p5) p6] p7) [.Return (some (.Constant (.bool false) 0 p8)) p9] [] p10] [] p11] :=
  ⟨_, _, _, _, _, _, _, _, _, _, _, _, _, _, _, _, _, _, _, _, _, _, _, _, _, _, _, _, rfl⟩
noncomputable def gR (r : List Nat) : FS := ⟨[("row", .list (avs r))], none⟩
noncomputable def gN (r : List Nat) : FS := ⟨[("row", .list (avs r)), ("number", .int ((rank 0 r : Nat) : Int))], none⟩
noncomputable def gA (r : List Nat) : FS := ⟨[("row", .list (avs r)), ("number", .int ((rank 0 r : Nat) : Int)), ("ahead", .list (avs (unrank (rank 0 r - 1) 0 r.length)))], none⟩
noncomputable def gT (r : List Nat) : FS := ⟨[("row", .list (avs r)), ("number", .int ((rank 0 r : Nat) : Int)), ("there", .list (avs (unrank (rank 0 r) 0 r.length)))], none⟩
theorem gR_get (r : List Nat) : (gR r).get (Str.ofString "row") = some (.list (avs r)) := by kernel_rfl
theorem gN_get (r : List Nat) : (gN r).get (Str.ofString "number") = some (.int ((rank 0 r : Nat) : Int)) ∧ (gN r).get (Str.ofString "row") = some (.list (avs r)) := ⟨by kernel_rfl, by kernel_rfl⟩
theorem gA_get (r : List Nat) : (gA r).get (Str.ofString "ahead") = some (.list (avs (unrank (rank 0 r - 1) 0 r.length))) ∧ (gA r).get (Str.ofString "row") = some (.list (avs r)) := ⟨by kernel_rfl, by kernel_rfl⟩
theorem gT_get (r : List Nat) : (gT r).get (Str.ofString "there") = some (.list (avs (unrank (rank 0 r) 0 r.length))) ∧ (gT r).get (Str.ofString "row") = some (.list (avs r)) := ⟨by kernel_rfl, by kernel_rfl⟩
theorem gR_set (r : List Nat) : (gR r).set (Str.ofString "number") (.int ((rank 0 r : Nat) : Int)) = gN r := by kernel_rfl
theorem gA_set (r : List Nat) : (gN r).set (Str.ofString "ahead") (.list (avs (unrank (rank 0 r - 1) 0 r.length))) = gA r := by kernel_rfl
theorem gT_set (r : List Nat) : (gN r).set (Str.ofString "there") (.list (avs (unrank (rank 0 r) 0 r.length))) = gT r := by kernel_rfl
theorem gA_sub (r : List Nat) : Sub (gN r) (gA r) := Sub.app (a := [("row", _), ("number", _)]) [("ahead", _)]
theorem len_even {r : List Nat} (hl : r.length = 4 ∨ r.length = 8 ∨ r.length = 12) : r.length % 2 = 0 ∧ r.length ≤ 12 := by lia
/-- if number > 0: .. -/
theorem s5_walk (Fd : Found w B) (lim : B.NoLimit) {rest : List Stmt} {r : List Nat} (hl : r.length = 4 ∨ r.length = 8 ∨ r.length = 12) (hr : ∀ f ∈ r, f < 64) {A : Around} {env : Env} {L : Addr} {l : List Env} {s : Shared} {Q : Flow → Shared → Prop} {E : Value → Shared → Prop} (c : Cx A 160) (ei : EnvIs env lawS L) (sk : Stk A B (env :: l) s.heap) (up : B.objs.size ≤ L)
    (F : FrameAt B [] L none (gN r) s.heap) (k : ∀ s', FrameAt B [] L none (gN r) s'.heap → Stk A B (env :: l) s'.heap → Sh s s' → wpAny (model prog w) A (execs rest env) Q E s') : wpAny (model prog w) A (execs ((lawF.body.drop 4).take 1 ++ rest) env) Q E s := by
  obtain ⟨pa, p0, p1, a1, a2, a3, a4, a5, a6, a7, a8, a9, a10, pb, pc, p2, p3, p4, pd, pe, pg, p5, p6, p7, p8, p9, p10, p11, hb⟩ := s5_shape
  rw [hb]
  obtain ⟨l1, l2, l3, l4, l5, l6, l7⟩ := law_loc
  obtain ⟨d1, d2, d3, d4, d5, d6, d7⟩ := dbg
  have ok := allTW (prog := prog) Fd lim 40
  obtain ⟨he, hl12⟩ := len_even hl
  refine wpAny_execs_cons (wpAny_If ?_)
  refine wpAny_mono (ok.tr _ _ _ _ (trn_gt l5 d5 (gN_get r).1 20).tr _ _ _ _ none _ _ (c.mono (by lia)) ei F.toFrameW) (fun q s1 h1 => ?_) fun _ _ z => z
  obtain ⟨rfl, k1⟩ := h1
  have F1 := F.ex k1
  have sk1 : Stk A B (env :: l) s1.heap := sk.mv (Mv.of_keeps (W := []) k1)
  by_cases hp : 0 < rank 0 r
  · rw [if_pos (decide_eq_true hp)]
    obtain ⟨h1, h2, h3⟩ := ahead_ok he hr hp
    show wpAny _ _ (execs ([_] ++ [_]) env) _ _ _
    refine law_step Fd lim (c.mono (by lia)) ei sk1 F1 (sA_run hl12 hp rfl (gN_get r).2 (gN_get r).1 6) (G := gA r) (by rw [gA_set]; exact Sub.rfl' _) rfl fun s2 F2 sk2 sh2 => ?_
    obtain ⟨g1, g2⟩ := gA_get r
    have hlen : (unrank (rank 0 r - 1) 0 r.length).length = 4 ∨ (unrank (rank 0 r - 1) 0 r.length).length = 8 ∨ (unrank (rank 0 r - 1) 0 r.length).length = 12 := by rw [unrank_len]; exact hl
    refine wpAny_execs_cons (wpAny_If (told_true Fd lim hlen h2 h1 c ei sk2 up F2 rfl l6 d6 g1 (trn_or1 (n := 38) ?_).tr fun s3 F3 sk3 sh3 => ?_))
    · have h := trn_not (p := p6) (trn_lt (p1 := pd) (p2 := pe) (p3 := pg) (p4 := p5) l6 d6 l4 d4 g1 g2 18)
      rw [h3] at h
      exact h
    · rw [if_neg (by decide)]
      refine wpAny_execs_nil (wpAny_execs_nil ?_)
      exact k s3 (F3.less (gA_sub r) rfl) sk3 (((sh_keeps k1).trans sh2).trans sh3)
  · rw [if_neg (by simpa using hp)]
    exact wpAny_execs_nil (k s1 F1 sk1 (sh_keeps k1))
theorem s7_shape : ∃ pb pc p2 p3 p4 pd pe pg p5 p7 p8 p9 p10, (lawF.body.drop 6).take 1 = [.If (.BoolOp .Or [.Compare (.Call (.Name "_law_told" pb) [.Name "there" pc] [] p2) [.NotEq] [.Constant (.bool true) 0 p3] p4, .Call (.Name "lt" pd) [.Name "there" pe, .Name "row" pg] [] p5] p7) [.Return (some (.Constant (.bool false) 0 p8)) p9] [] p10] :=
  ⟨_, _, _, _, _, _, _, _, _, _, _, _, _, rfl⟩
theorem s7_walk (Fd : Found w B) (lim : B.NoLimit) {rest : List Stmt} {r : List Nat} (hl : r.length = 4 ∨ r.length = 8 ∨ r.length = 12) (hr : ∀ f ∈ r, f < 64) {A : Around} {env : Env} {L : Addr} {l : List Env} {s : Shared} {Q : Flow → Shared → Prop} {E : Value → Shared → Prop} (c : Cx A 160) (ei : EnvIs env lawS L) (sk : Stk A B (env :: l) s.heap) (up : B.objs.size ≤ L)
    (F : FrameAt B [] L none (gT r) s.heap) (k : ∀ s', FrameAt B [] L none (gT r) s'.heap → Stk A B (env :: l) s'.heap → Sh s s' → wpAny (model prog w) A (execs rest env) Q E s') : wpAny (model prog w) A (execs ((lawF.body.drop 6).take 1 ++ rest) env) Q E s := by
  obtain ⟨pb, pc, p2, p3, p4, pd, pe, pg, p5, p7, p8, p9, p10, hb⟩ := s7_shape
  rw [hb]
  obtain ⟨l1, l2, l3, l4, l5, l6, l7⟩ := law_loc
  obtain ⟨d1, d2, d3, d4, d5, d6, d7⟩ := dbg
  obtain ⟨he, hl12⟩ := len_even hl
  obtain ⟨t1, t2, t3, t4⟩ := there_ok he hr
  obtain ⟨g1, g2⟩ := gT_get r
  have hlen : (unrank (rank 0 r) 0 r.length).length = 4 ∨ (unrank (rank 0 r) 0 r.length).length = 8 ∨ (unrank (rank 0 r) 0 r.length).length = 12 := by rw [unrank_len]; exact hl
  refine wpAny_execs_cons (wpAny_If (told_true Fd lim hlen t2 t1 c ei sk up F rfl l7 d7 g1 (trn_or1 (n := 38) ?_).tr fun s3 F3 sk3 sh3 => ?_))
  · have h := trn_lt (p1 := pd) (p2 := pe) (p3 := pg) (p4 := p5) l7 d7 l4 d4 g1 g2 19
    rw [t3] at h
    exact h
  · rw [if_neg (by decide)]
    exact wpAny_execs_nil (k s3 F3 sk3 sh3)
theorem s8_shape : ∃ pa pb p1 pc pd p2 p3 p4 p5 p6 p7, lawF.body.drop 7 = [.Return (some (.Compare (.Call (.Name "_law_told" pa) [.Name "row" pb] [] p1) [.Eq] [.IfExp (.Compare (.Name "there" pc) [.Eq] [.Name "row" pd] p2) (.Constant (.bool true) 0 p3) (.Constant (.str msgS) 0 p4) p5] p6)) p7] :=
  ⟨_, _, _, _, _, _, _, _, _, _, _, rfl⟩
theorem s8_walk (Fd : Found w B) (lim : B.NoLimit) {r : List Nat} (hl : r.length = 4 ∨ r.length = 8 ∨ r.length = 12) (hr : ∀ f ∈ r, f < 64) {A : Around} {env : Env} {L : Addr} {l : List Env} {s : Shared} {Q : Flow → Shared → Prop} {E : Value → Shared → Prop} (c : Cx A 160) (ei : EnvIs env lawS L) (sk : Stk A B (env :: l) s.heap) (up : B.objs.size ≤ L)
    (F : FrameAt B [] L none (gT r) s.heap) (hQ : ∀ s', B.StaysIn s'.heap → Sh s s' → Q (.ret (.bool true)) s') : wpAny (model prog w) A (execs (lawF.body.drop 7) env) Q E s := by
  obtain ⟨pa, pb, p1, pc, pd, p2, p3, p4, p5, p6, p7, hb⟩ := s8_shape
  rw [hb]
  obtain ⟨l1, l2, l3, l4, l5, l6, l7⟩ := law_loc
  obtain ⟨d1, d2, d3, d4, d5, d6, d7⟩ := dbg
  obtain ⟨he, hl12⟩ := len_even hl
  obtain ⟨t1, t2, t3, t4⟩ := there_ok he hr
  obtain ⟨g1, g2⟩ := gT_get r
  have ok := allTW (prog := prog) Fd lim 40
  refine wpAny_execs_cons (wpAny_Return_some (wpAny_Compare1 (told_call Fd lim hl hr c ei sk up F rfl l4 d4 g2 fun u s1 F1 sk1 sh1 du => ?_) rfl))
  refine wpAny_mono (ok.ev _ _ _ _ (evn_said l7 d7 l4 d4 g1 g2 20).ev _ _ _ _ none _ _ (c.mono (by lia)) ei F1.toFrameW) (fun v s2 h2 => ?_) fun _ _ z => z
  obtain ⟨k2, d2⟩ := h2
  have hc : cmp .Eq (if good 0 r = true then AV.bool true else .str msgS) (if unrank (rank 0 r) 0 r.length = r then AV.bool true else .str msgS) = some true := by
    by_cases hg : good 0 r = true
    · rw [if_pos hg, if_pos (t4.mp hg)]; rfl
    · rw [if_neg hg, if_neg fun e => hg (t4.mpr e)]
      show some (msgS == msgS) = some true
      rw [beq_self_eq_true]
  refine wpAny_mono (cmpAll_ok (hid := L :: []) c.hand (by have := c.units; lia) hc (du.mono fun _ _ z => by cases z) d2) (fun v3 s3 h3 => ?_) fun _ _ z => z
  obtain ⟨rfl, k3⟩ := h3
  have k13 := kp_trans k2 k3
  exact hQ s3 (fun b o e => kp_heap k13 _ _ (F1.top b o e)) (sh1.trans (sh_keeps k13))
end
end Mine
end
/- R29 -/
section
open PySem PySem.W PyProof.Rows PySem.Calls
set_option Elab.async false
set_option linter.unusedVariables false
set_option linter.unusedSimpArgs false
namespace Mine
set_option maxRecDepth 100000
theorem dS_any : (dS.names.any fun (n, k) => n == Str.ofString "drawn" && (k == .local || k == .cell)) = false := by kernel_rfl
noncomputable def gD (fs : List Nat) : FS := ⟨[("drawn", .list (avs fs))], none⟩
theorem gD_get (fs : List Nat) : (gD fs).get (Str.ofString "drawn") = some (.list (avs fs)) := by kernel_rfl
theorem gD_sub (as : List Int) (fs : List Nat) : Sub (gD fs) ((gS as).put (Str.ofString "drawn") (.list (avs fs))) := Sub.app (a := [("drawn", _)]) [("script", _), ("numbers", _)]
theorem gR_sub (fs rs : List Nat) : Sub (gR rs) ((gD fs).set (Str.ofString "row") (.list (avs rs))) := Sub.of_cons (by kernel_rfl) (Sub.of_nil rfl)
theorem nums_len {as : List Int} : 0 < (numsOf as).length ∧ (numsOf as).length ≤ 12 := by
  unfold numsOf
  split
  · decide
  · rename_i h
    have : 0 < as.length := List.length_pos_iff.mpr h
    rw [List.length_take]; lia
section
variable {prog : Program} {w : World} {B : Heap}
theorem s2_walk (Fd : Found w B) (lim : B.NoLimit) {rest : List Stmt} {as : List Int} {A : Around} {env : Env} {L : Addr} {l : List Env} {s : Shared} {Q : Flow → Shared → Prop} {E : Value → Shared → Prop} (c : Cx A 110) (ei : EnvIs env lawS L) (sk : Stk A B (env :: l) s.heap)
    (F : FrameAt B [] L none (gS as) s.heap) (k : ∀ s', FrameAt B [] L none (gD ((numsOf as).map figN)) s'.heap → Stk A B (env :: l) s'.heap → Sh s s' → wpAny (model prog w) A (execs rest env) Q E s') : wpAny (model prog w) A (execs ((lawF.body.drop 1).take 1 ++ rest) env) Q E s := by
  obtain ⟨pa, px, pb, pos, spos, hb, hline⟩ := s2_shape
  rw [hb]
  obtain ⟨l1, l2, l3, l4, l5, l6, l7⟩ := law_loc
  obtain ⟨d1, d2, d3, d4, d5, d6, d7⟩ := dbg
  have ok := allTW (prog := prog) Fd lim 110
  have ek : env.kindOf (Str.ofString "drawn") = some .local := by show env.scope.names.lookup _ = _; rw [ei.scp]; exact l3
  have eb : env.blockKind = .function := by unfold Env.blockKind; rw [ei.scp, ei.kind]; rfl
  have hsw : swapsWith (.ListComp dE [⟨.Name (Str.ofString "x") px, .Name (Str.ofString "numbers") pb, [], 0⟩] dS pos) (some (.Name (Str.ofString "drawn") pa)) spos.line env = pure true := by
    show (pure (env.blockKind == .function && env.kindOf (Str.ofString "drawn") == some .local && pa.line == pos.line && !(dS.names.any fun (n, k) => n == Str.ofString "drawn" && (k == .local || k == .cell))) : Sem Bool) = pure true
    rw [ek, eb, hline, dS_any]
    rfl
  have hg : (gS as).noOwn.get (Str.ofString "numbers") = some (.list (ias (numsOf as))) := by kernel_rfl
  refine wpAny_execs_cons (wpAny_mono (comp_assign ok.ev (xs := ias (numsOf as)) (as := numsOf as) (rs := avs ((numsOf as).map figN)) c ei dS_wf l3 hsw F ?_ (evn_name (n := 109) l2 d2 hg).ev (ints_map _) (dMap _)) (fun fl s1 hs => ?_) fun _ _ z => z)
  · rw [show (ias (numsOf as)).length = (numsOf as).length by simp [ias]]
    exact small63 (by have := (nums_len (as := as)).2; lia)
  · cases fl <;> try exact hs.elim
    obtain ⟨oa', F', kb, ow⟩ := hs
    obtain ⟨m, hm, _⟩ := F'.ns
    exact k s1 (F'.less (gD_sub as _) rfl) (sk.mv (KB.mv kb hm)) (sh_kb kb)
theorem law_fwf : wfOB lawF = true ∧ (match lawF.fd.body with | .stmts b => b | _ => []) = lawF.body ∧ lawF.ps = [Str.ofString "script"] ∧ lawF.a = 886 := ⟨by decide +kernel, by kernel_rfl, by kernel_rfl, by kernel_rfl⟩
theorem law_bind (a : Value) : bindArgs lawF.fd ⟨[a], []⟩ = pure [(Str.ofString "script", a)] := by kernel_rfl
theorem law_parts : lawF.body = lawF.body.take 1 ++ ((lawF.body.drop 1).take 1 ++ ((lawF.body.drop 2).take 1 ++ ((lawF.body.drop 3).take 1 ++ ((lawF.body.drop 4).take 1 ++ ((lawF.body.drop 5).take 1 ++ ((lawF.body.drop 6).take 1 ++ lawF.body.drop 7)))))) := by kernel_rfl
/-- law(script) -/
theorem law_walk (Fd : Found w B) (lim : B.NoLimit) {as : List Int} (hl : as.length ≤ 63) {A : Around} {l : List Env} {s : Shared} {v : Value} {Q E : Value → Shared → Prop} (c : Cx A 200) (sk : Stk A B l s.heap) (st : B.StaysIn s.heap) (up : B.objs.size ≤ s.heap.objs.size)
    (d : Den (vw s.heap []) v (.list (ias as))) (hQ : ∀ s', B.StaysIn s'.heap → Sh s s' → Q (.bool true) s') : wpAny (model prog w) A (call (.ref 886) [v]) Q E s := by
  obtain ⟨q1, q2, hps, ea⟩ := law_fwf
  have Fo := wfP_of q2 q1
  have Fa : FnAt B lawF := Fd.rowAt (i := 24) (by decide)
  obtain ⟨o, ho, hdd, _⟩ := Fa.obj
  have fresh : s.heap.get? s.heap.objs.size = none := size_none _
  rw [← ea]
  refine wpAny_call (codeAny_call_plain (by have := c.depth; lia) (st _ _ ho) hdd (lim.keeps st) (Fa.code.keeps st) Fo.body (law_bind v) Fo.cell (fun p hp => ?_) (fun h₀ hn hk => ?_) Fo.co Fo.gen Fo.kind)
  · simp only [List.mem_cons, List.not_mem_nil, or_false] at hp
    rw [hp]; exact Fo.loc _ (by rw [hps]; simp)
  have ei : EnvIs (callEnv lawF.fd s.heap.objs.size lawF.a) lawS s.heap.objs.size := ⟨rfl, rfl, Fo.gl, Fo.bl, Fo.kind⟩
  have ef := callEnv_frame lawF.fd s.heap.objs.size lawF.a Fo.kind
  have kp : Keeps s { s with heap := h₀, toks := s.toks + ([(Str.ofString "script", v)] : List (Str × Value)).length } := ⟨h₀, _, rfl, hk⟩
  have bn : B.get? s.heap.objs.size = none := by
    cases e : B.get? s.heap.objs.size with
    | none => rfl
    | some o => exact absurd (Nat.lt_of_lt_of_le (Heap.lt_size e) up) (Nat.lt_irrefl _)
  have Fr0 : FrameAt B [] s.heap.objs.size none ⟨[(Str.ofString "script", .list (ias as))], none⟩ h₀ := by
    refine ⟨⟨fun b hb => absurd hb List.not_mem_nil, List.not_mem_nil, fun b o e => hk b o (st b o e), _, hn, fun y u e => ?_⟩, bn⟩
    simp only [List.lookup] at e
    split at e
    · rename_i q
      cases e
      refine ⟨v, by rw [eq_of_beq q]; rfl, d.mono fun b o q => ?_⟩
      have q' := vw_some q
      rw [vw_get (by intro hb; rcases List.mem_cons.mp hb with z | z; (rw [z, fresh] at q'; cases q'.1); exact absurd z List.not_mem_nil)]
      exact hk b o q'.1
    · cases e
  have sk0 : Stk (A.deeper (callEnv lawF.fd s.heap.objs.size lawF.a)) B (callEnv lawF.fd s.heap.objs.size lawF.a :: l) h₀ := ⟨Around.frames_deeper sk.fr, .cons (by rw [ei.scp, ei.kind]; decide) ef hn bn ((Mv.of_keeps (W := []) kp).frames sk.fun_)⟩
  have c1 := c.deeper (callEnv lawF.fd s.heap.objs.size lawF.a)
  generalize callEnv lawF.fd s.heap.objs.size lawF.a = env at *
  generalize hLL : s.heap.objs.size = L at *
  have fl := nums_len (as := as)
  have hf12 : ((numsOf as).map figN).length ≤ 12 := by rw [List.length_map]; exact fl.2
  have hf64 : ∀ f ∈ (numsOf as).map figN, f < 64 := fun f hf => by
    obtain ⟨a, _, rfl⟩ := List.mem_map.mp hf
    exact (fig_ok a).2
  have hrl := pad_len (fs := (numsOf as).map figN) (by rw [List.length_map]; exact fl.1) hf12
  have hr64 := pad_lt hf64
  generalize hfs : (numsOf as).map figN = fs at *
  have hr12 : (padR fs).length ≤ 12 := by lia
  rw [law_parts]
  refine law_step Fd lim (c1.mono (by lia)) ei sk0 Fr0 (s1_run hl 20) (G := gS as) (Sub.rfl' _) rfl fun s1 F1 sk1 sh1 => ?_
  refine s2_walk Fd lim (c1.mono (by lia)) ei sk1 F1 fun s2 F2 sk2 sh2 => ?_
  rw [hfs] at F2
  refine law_step Fd lim (c1.mono (by lia)) ei sk2 F2 (s3_run hf12 rfl (gD_get fs) 20) (G := gR (padR fs)) (gR_sub _ _) rfl fun s3 F3 sk3 sh3 => ?_
  refine law_step Fd lim (c1.mono (by lia)) ei sk3 F3 (s4_run hr12 hr64 rfl (gR_get _) 20) (G := gN (padR fs)) (by rw [gR_set]; exact Sub.rfl' _) rfl fun s4 F4 sk4 sh4 => ?_
  refine s5_walk Fd lim hrl hr64 (c1.mono (by lia)) ei sk4 up F4 fun s5 F5 sk5 sh5 => ?_
  obtain ⟨gn1, gn2⟩ := gN_get (padR fs)
  refine law_step Fd lim (c1.mono (by lia)) ei sk5 F5 (s6_run hr12 rfl gn2 gn1 20) (G := gT (padR fs)) (by rw [gT_set]; exact Sub.rfl' _) rfl fun s6 F6 sk6 sh6 => ?_
  refine s7_walk Fd lim hrl hr64 (c1.mono (by lia)) ei sk6 up F6 fun s7 F7 sk7 sh7 => ?_
  refine s8_walk Fd lim hrl hr64 (c1.mono (by lia)) ei sk7 up F7 fun s8 st8 sh8 => ?_
  exact hQ s8 st8 ((((((((sh_keeps kp).trans sh1).trans sh2).trans sh3).trans sh4).trans sh5).trans sh6).trans sh7 |>.trans sh8)
end
end Mine
end
/- R30 -/
section
open PySem PySem.W PyProof.Rows PySem.Calls
set_option Elab.async false
set_option linter.unusedVariables false
set_option linter.unusedSimpArgs false
namespace Mine
set_option maxRecDepth 100000
theorem row_args : PySem.Challenge.rw_op0206_01.row.toRowW.args = [.list .int] := rfl
theorem row_pre : PySem.Challenge.rw_op0206_01.row.toRowW.pre = .and (.not (.lt (.lit (.int 63)) (.len (.arg 0)))) (.lit (.bool true)) := rfl
theorem pre_len {R : WRecords} {xs : List WData} (h : (WTm.and (.not (.lt (.lit (.int 63)) (.len (.arg 0)))) (.lit (.bool true))).holds R { args := [.list xs] } = true) : xs.length ≤ 63 := by
  have e : (WTm.not (.lt (.lit (.int 63)) (.len (.arg 0)))).value R { args := [.list xs] } = some (.bool (!decide ((63 : Int) < (xs.length : Int)))) := rfl
  have h4 := condW_of (holds_andW h).1 e
  rw [Bool.not_eq_true', decide_eq_false_iff_not] at h4
  exact Nat.le_of_not_lt fun z => h4 (Int.ofNat_lt.mpr z)
theorem read_int {R : WRecords} {cl : Str → Option Addr} {h : Heap} {v : Value} {a : Int} {as : List Addr} (x : ReadsW R cl h v (.int a) as) : Den (vw h []) v (.int a) := by
  cases x; exact .int _ _
theorem reads_ias {R : WRecords} {cl : Str → Option Addr} {h : Heap} : ∀ {ns : List Int} {vs : List Value} {as : List Addr}, ReadsAllW R cl h vs (ns.map .int) as → DenAll (vw h []) vs (ias ns) := by
  intro ns
  induction ns with
  | nil => intro vs as x; cases x; exact .nil
  | cons a r ih => intro vs as x; cases x with | cons x y => exact .cons (read_int x) (ih y)
theorem promised : PySem.Challenge.rw_op0206_01.row.toRowW.promised := RowW.promised_of_found (by decide +kernel)
theorem post_ok (args ds : List WData) : PySem.Challenge.rw_op0206_01.row.toRowW.claim.post args (.bool true) ds = true := by
  show (WShape.has [] (.bool true) .bool && (WTm.eq .res (.lit (.bool true))).holds [] { args := args, res := some (.bool true), after := ds }) = true
  have hv : (WTm.eq .res (.lit (.bool true))).value [] { args := args, res := some (.bool true), after := ds } = some (.bool (true == true)) :=
    w_eq_bool rfl rfl
  rw [holdsW_of_value hv]
  rfl
/-- the walk -/
theorem walk {d : DefRec} {kwd : List (Str × Expr)} (hd : d.name = Str.ofString "law") : WalkO qv looseL (fun _ _ => True) (fun w h => Found w h) PySem.Challenge.rw_op0206_01.row.toRowW d kwd fun f vs => PySem.call f vs := by
  intro w s₀ s₁ mg mb G Fd a o pm cd doc dV kV ha ho hcd hdf hmg hgens args vals as hpre hlay hrd hwell hlow
  obtain ⟨m, mb', hg, hbn, hfn, _⟩ := Fd.names
  have e886 : mg (Str.ofString "law") = some (.ref 886) := by
    rw [ns_same hg G.T.g]
    exact hfn (rowAt 24) (rowAt_mem 24 (by decide))
  rw [hd, e886] at hmg
  cases hmg
  obtain ⟨hsh, hpr⟩ := pre_splitW hpre
  rw [row_args] at hsh
  rw [row_pre] at hpr
  obtain ⟨d0, r0, rfl, hd0, hr0⟩ := hasAllW_cons hsh
  cases hasAllW_nil hr0
  obtain ⟨xs, rfl, hxs⟩ := hasW_list hd0
  obtain ⟨ns, rfl⟩ := items_int hxs
  have hl := pre_len hpr
  rw [List.length_map] at hl
  cases hrd with
  | cons hr1 hr2 =>
    cases hr2
    cases hr1 with
    | list h1 h2 h3 h4 =>
      rename_i v0 ad ob vs n as0
      have dn : Den (vw s₁.heap []) (.ref ad) (.list (ias ns)) := .list (vs := vs.toList) (by rw [vw_get List.not_mem_nil]; exact h1) h2 (by simpa using h3) (reads_ias h4)
      refine law_walk Fd G.T.nolimit hl (l := []) ⟨by decide, by decide, rfl⟩ ⟨rfl, trivial⟩ (fun b o e => e) (Nat.le_refl _) dn fun s' st sh => ?_
      obtain ⟨h', tk, rfl⟩ := sh
      exact ⟨.inl ⟨.bool true, .bool true, [], rfl, fun _ => rfl, .bool true, post_ok _ _, fun _ => ⟨.nil, fun _ h => by cases h⟩⟩, .of_keep st, rfl, .of_eq hgens⟩
theorem goal : PySem.Challenge.rw_op0206_01.Holds := by
  refine holds_law Mine.ws fun said => ?_
  exact holds_open (q := qv) (loose := looseL) (Xt := xt) (XP := fun _ _ => True) (Yf := yf) (Ya := ya) (YP := fun w h => Found w h) (N := 6000) left (fun w s e => found_of e) (fun w h h' x k => x.keeps k) (fun _ _ => trivial) (fun _ _ _ _ _ => trivial) (by rfl) (by rfl) (by rfl) (fun s e => recFacts_of e) (by rfl) said (by decide +kernel) ⟨rfl, rfl, rfl, rfl, rfl, by decide +kernel⟩ promised (walk rfl)
end Mine
end
theorem PySem.Challenge.cw_op0206_01_holds : PySem.Challenge.rw_op0206_01.Holds := by
  exact Mine.goal
