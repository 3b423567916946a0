import PyProof.Rows.All
import Wide.All
import OpenK.AllK
import Wide.FinOn
import Lean
import PySem.Challenge.RW_yj0022_01
section -- S00
open PySem PySem.W PyProof.Rows
set_option Elab.async false
set_option maxRecDepth 100000
namespace Mine
/-- the same text with one idle statement behind it, which makes a tuple of a text's hash: so the head's tool lays the heap of the text without its pieces -/
def pz : Pos := ⟨1, 0, 1, 1⟩
def idle : Stmt := .Expr (.Tuple [.Call (.Attribute (.Constant (.str "a") 0 pz) "__hash__" pz) [] [] pz] 0 pz) pz
def lawV : OpenLaw := { PySem.Challenge.rw_yj0022_01 with prog := { PySem.Challenge.rw_yj0022_01.prog with main := { PySem.Challenge.rw_yj0022_01.prog.main with body := PySem.Challenge.rw_yj0022_01.prog.main.body ++ [idle] } } }
set_option maxHeartbeats 8000000 in
open_top hv for lawV.row
end Mine
end
section -- S0
open PySem PySem.W PyProof.Rows PySem.Calls PySem.Spec
set_option Elab.async false
set_option maxRecDepth 100000
set_option linter.unusedVariables false
namespace Mine
/-- the written part of the heap: the text's own defs, class, code objects -/
noncomputable abbrev KK : Params → Frag := Mine.hv.heap_1

/-- code objects that make a def or a lambda in their body: code, table of places, the made code's qualified name -/
noncomputable def tabsL : List (Addr × Addr × Str) := [(179, 175, Str.ofString "_law_thing.<locals>.thing"), (49, 45, Str.ofString "_str_to_int_inner.<locals>.inner"), (34, 30, Str.ofString "prepare_child.<locals>.select"), (27, 23, Str.ofString "_prepare_tag.<locals>.select"), (209, 207, Str.ofString "law.<locals>.<lambda>")]
noncomputable def isTab (P : Addr) : Prop := ∃ q ∈ tabsL, q.2.1 = P

structure Wd where
  w : World
  mg : Str → Option Value
  mb : Str → Option Value
  B : Nat
noncomputable def Wd.M (W : Wd) : Model := model PySem.Challenge.pw_yj0022_01 W.w
noncomputable def Wd.K (W : Wd) : Frag := KK W.w.params

/-- what never changes -/
structure Wd.Ok (W : Wd) : Prop where
  gin : ∀ x v, nsIn W.K mainGlobals x = some (some v) → W.mg x = some v
  gout : ∀ x, nsIn W.K mainGlobals x = some none → W.mg x = none
  blt : ∀ x : Str, x ≠ "__name__" → W.mb x = bootBuiltins x
  lowK : ∀ a o, W.K.lookup a = some o → a < W.B
  lowM : mainGlobals < W.B ∧ builtinsNs < W.B ∧ cStatics < W.B
  lowT : ∀ P, isTab P → P < W.B
  offT : ∀ a o, W.K.lookup a = some o → ¬ isTab a
  offM : ¬ isTab mainGlobals ∧ ¬ isTab builtinsNs ∧ ¬ isTab cStatics
  bm : ∃ bm, W.mg "__builtins__" = some (.ref bm) ∧ bm ≠ builtinsNs ∧ bm < W.B ∧ ¬ isTab bm

noncomputable def isCode (o : Obj) : Prop := o.cls = .type "code" ∧ ∃ vs, o.data = .fields vs
noncomputable def CodeIs (h : Heap) (c : Value) (q : Str) : Prop := ∃ a o vs t, c = .ref a ∧ h.get? a = some o ∧ o.cls = .type "code" ∧ o.data = .fields vs ∧ vs[1]? = some (.str q t)
theorem CodeIs.rec {h : Heap} {c : Value} {q : Str} (x : CodeIs h c q) : h.CodeRec c q := let ⟨a, o, vs, t, e, g, _, r⟩ := x; ⟨a, o, vs, t, e, g, r⟩

/-- the state of a table -/
noncomputable def TabOk (h : Heap) (P : Addr) (q : Str) : Prop :=
  ∃ ps, h.get? P = some (tabObj ps) ∧ TriplesOk ps.toList ∧ ∀ pos c, codeAmong pos ps.toList = some c → CodeIs h c q

structure Inv (W : Wd) (h : Heap) : Prop where
  K : W.K.In h
  g : h.Ns mainGlobals W.mg
  b : h.Ns builtinsNs W.mb
  lim : h.NoLimit
  dig : ∃ mc, h.Ns cStatics mc ∧ mc "sys.int_max_str_digits" = none
  bm : ∃ bm ob, W.mg "__builtins__" = some (.ref bm) ∧ h.get? bm = some ob ∧ ob.cls = .type "module" ∧ ob.dict = some builtinsNs ∧ ob.data = .plain
  tab : ∀ q ∈ tabsL, TabOk h q.2.1 q.2.2
  size : W.B ≤ h.objs.size

/-- all that stood is kept but what Z owns; tables grow -/
structure Kp (Z : Addr → Prop) (s s' : Shared) : Prop where
  keep : ∀ b o, s.heap.get? b = some o → ¬ Z b → ¬ isTab b → s'.heap.get? b = some o
  code : ∀ b o, s.heap.get? b = some o → isCode o → s'.heap.get? b = some o
  tab : ∀ P, isTab P → ∀ ps, s.heap.get? P = some (tabObj ps) → ∃ more, s'.heap.get? P = some (tabObj (ps ++ more))
  size : s.heap.objs.size ≤ s'.heap.objs.size
  gens : ∀ (i : Nat) (x : GenState), s.gens[i]? = some x → s'.gens[i]? = some x
  bare : ∀ (i : Nat) (x : GenState), s'.gens[i]? = some x → s.gens.size ≤ i → x.bare = true
  os : s'.os = s.os

/-- nothing that stood is touched (tables aside) -/
noncomputable abbrev No : Addr → Prop := fun _ => False

theorem Kp.refl (Z : Addr → Prop) (s : Shared) : Kp Z s s :=
  ⟨fun _ _ e _ _ => e, fun _ _ e _ => e, fun _ _ ps e => ⟨#[], by simpa using e⟩, Nat.le_refl _, fun _ _ e => e, fun i x e hi => (by rw [Array.getElem?_eq_none hi] at e; cases e), rfl⟩

theorem Kp.trans {Z Z' : Addr → Prop} {s s' s'' : Shared} (h : Kp Z s s') (h' : Kp Z' s' s'') (hz : ∀ b, Z' b → Z b ∨ s.heap.objs.size ≤ b) : Kp Z s s'' := by
  refine ⟨fun b o e n t => h'.keep b o (h.keep b o e n t) (fun z => ?_) t, fun b o e c => h'.code b o (h.code b o e c) c, fun P hP ps e => ?_, Nat.le_trans h.size h'.size, fun i x e => h'.gens i x (h.gens i x e), fun i x e hi => ?_, h'.os.trans h.os⟩
  · rcases hz b z with z | z
    · exact n z
    · exact absurd (Heap.lt_size e) (Nat.not_lt.mpr z)
  · obtain ⟨m1, e1⟩ := h.tab P hP ps e
    obtain ⟨m2, e2⟩ := h'.tab P hP _ e1
    exact ⟨m1 ++ m2, by rw [e2, Array.append_assoc]⟩
  · rcases Nat.lt_or_ge i s'.gens.size with hl | hl
    · have h1 : s'.gens[i]? = some s'.gens[i] := by simp [hl]
      have h2 := h'.gens _ _ h1
      rw [e] at h2
      cases h2
      exact h.bare _ _ h1 hi
    · exact h'.bare i x e hl

theorem Kp.weaken {Z Z' : Addr → Prop} {s s' : Shared} (h : Kp Z s s') (hz : ∀ b, Z b → Z' b ∨ s.heap.objs.size ≤ b) : Kp Z' s s' :=
  (Kp.refl Z' s).trans h hz
theorem Kp.trans0 {s s' s'' : Shared} (h : Kp No s s') (h' : Kp No s' s'') : Kp No s s'' := h.trans h' fun _ z => z.elim
theorem Kp.up {Z : Addr → Prop} {s s' : Shared} (h : Kp No s s') : Kp Z s s' := h.weaken fun _ z => z.elim

/-- a step that keeps every old object but those of Z, tables too -/
structure Kq (Z : Addr → Prop) (h h' : Heap) : Prop where
  keep : ∀ b o, h.get? b = some o → ¬ Z b → h'.get? b = some o
  code : ∀ b o, h.get? b = some o → isCode o → h'.get? b = some o
  size : h.objs.size ≤ h'.objs.size
theorem Kq.kp {Z : Addr → Prop} {s : Shared} {h' : Heap} {tk : Nat} (k : Kq Z s.heap h') (ht : ∀ P, isTab P → ¬ Z P) : Kp Z s { s with heap := h', toks := tk } :=
  ⟨fun b o e n _ => k.keep b o e n, k.code, fun P hP ps e => ⟨#[], by simpa using k.keep P _ e (ht P hP)⟩, k.size, fun _ _ e => e, fun i x e hi => (by rw [Array.getElem?_eq_none hi] at e; cases e), rfl⟩
theorem Kq.all {h h' : Heap} (k : ∀ b o, h.get? b = some o → h'.get? b = some o) (hs : h.objs.size ≤ h'.objs.size) : Kq No h h' := ⟨fun b o e _ => k b o e, fun b o e _ => k b o e, hs⟩
theorem Kq.push (h : Heap) (o : Obj) : Kq No h (h.push o) := .all (fun b o' e => Heap.get?_push_of_some _ e) (by rw [Heap.size_push]; omega)
theorem Kq.refl (h : Heap) : Kq No h h := .all (fun _ _ e => e) (Nat.le_refl _)
/-- one object is changed, which is no code -/
theorem Kq.one {h h' : Heap} {a : Addr} {o : Obj} (hs : Heap.SameBut a h h') (ho : h.get? a = some o) (hc : ¬ isCode o) : Kq (· = a) h h' := by
  refine ⟨fun b o' e n => (hs.2 b n).trans e, fun b o' e c => ?_, Nat.le_of_eq hs.1.symm⟩
  by_cases hb : b = a
  · subst hb; rw [ho] at e; cases e; exact absurd c hc
  · exact (hs.2 b hb).trans e
theorem Kq.trans {Z Z' : Addr → Prop} {h h' h'' : Heap} (x : Kq Z h h') (y : Kq Z' h' h'') (hz : ∀ b, Z' b → Z b ∨ h.objs.size ≤ b) : Kq Z h h'' := by
  refine ⟨fun b o e n => y.keep b o (x.keep b o e n) fun z => ?_, fun b o e c => y.code b o (x.code b o e c) c, Nat.le_trans x.size y.size⟩
  rcases hz b z with z | z
  · exact n z
  · exact absurd (Heap.lt_size e) (Nat.not_lt.mpr z)
theorem Kq.weaken {Z Z' : Addr → Prop} {h h' : Heap} (x : Kq Z h h') (hz : ∀ b, Z b → Z' b ∨ h.objs.size ≤ b) : Kq Z' h h' :=
  (⟨fun _ _ e _ => e, fun _ _ e _ => e, Nat.le_refl _⟩ : Kq Z' h h).trans x hz

theorem CodeIs.step {h h' : Heap} {c : Value} {q : Str} (k : ∀ b o, h.get? b = some o → isCode o → h'.get? b = some o) (x : CodeIs h c q) : CodeIs h' c q :=
  let ⟨a, o, vs, t, e, g, c1, d, r⟩ := x; ⟨a, o, vs, t, e, k _ _ g ⟨c1, _, d⟩, c1, d, r⟩

theorem Inv.step {W : Wd} {h h' : Heap} {Z : Addr → Prop} (V : W.Ok) (I : Inv W h) (k : Kq Z h h') (hz : ∀ b, Z b → W.B ≤ b) : Inv W h' := by
  have low : ∀ b, b < W.B → ¬ Z b := fun b hb z => absurd (hz b z) (Nat.not_le.mpr hb)
  have ns : ∀ a m, a < W.B → h.Ns a m → h'.Ns a m := fun a m ha x => let ⟨o, es, ep, e, r⟩ := x; ⟨o, es, ep, k.keep _ _ e (low a ha), r⟩
  refine ⟨fun a o e => k.keep a o (I.K a o e) (low a (V.lowK a o e)), ns _ _ V.lowM.1 I.g, ns _ _ V.lowM.2.1 I.b, ?_, ?_, ?_, fun q hq => ?_, Nat.le_trans I.size k.size⟩
  · obtain ⟨mc, a, r⟩ := I.lim; exact ⟨mc, ns _ _ V.lowM.2.2 a, r⟩
  · obtain ⟨mc, a, r⟩ := I.dig; exact ⟨mc, ns _ _ V.lowM.2.2 a, r⟩
  · obtain ⟨bm, ob, h1, h2, r⟩ := I.bm
    obtain ⟨bm', h1', _, hl, _⟩ := V.bm
    rw [h1] at h1'; cases h1'
    exact ⟨bm, ob, h1, k.keep _ _ h2 (low _ hl), r⟩
  · obtain ⟨ps, a, b, c⟩ := I.tab q hq
    exact ⟨ps, k.keep _ _ a (low _ (V.lowT _ ⟨q, hq, rfl⟩)), b, fun pos v e => (c pos v e).step k.code⟩

theorem Wd.Ok.high {W : Wd} (V : W.Ok) {Z : Addr → Prop} (hz : ∀ b, Z b → W.B ≤ b) : ∀ P, isTab P → ¬ Z P := fun P hP z => absurd (hz P z) (Nat.not_le.mpr (V.lowT P hP))

end Mine
end
section -- S1
open PySem PySem.W PyProof.Rows PySem.Calls PySem.Spec
set_option Elab.async false
set_option maxRecDepth 100000
set_option linter.unusedVariables false
set_option autoImplicit false
namespace Mine

/-- data, as the text's values are read -/
inductive D where
  | val (v : Value)
  | int (i : Int)
  | str (x : Str)
  | tup (l : List D)
  | lst (l : List D)
  | qn (x : Str)
  | thing (d : D)
  | ex (v : Value) (d : D)
  | slc (lo hi : Option Int)
noncomputable abbrev D.none : D := .val .none
noncomputable abbrev D.bool (b : Bool) : D := .val (.bool b)

noncomputable def Av (Y : Addr → Prop) (a : Addr) : Prop := ¬ Y a ∧ ¬ isTab a
noncomputable abbrev QN : Addr := 145

noncomputable def PartIs (o : Option Int) (v : Value) : Prop := match o with
  | none => v = .none
  | some i => ∃ t, v = .int i t
/-- a slice object -/
noncomputable def sliceObj (vl vu : Value) : Obj := { cls := .type "slice", data := .fields #[vl, vu, .none] }
mutual
noncomputable def D.Is (Y : Addr → Prop) (h : Heap) : D → Value → Prop
  | .val u, v => v = u
  | .int i, v => ∃ t, v = .int i t
  | .str x, v => ∃ t, v = .str x t
  | .tup l, v => ∃ a vs, v = .ref a ∧ Av Y a ∧ h.IsTuple a vs.toArray ∧ D.IsL Y h l vs
  | .lst l, v => ∃ a vs, v = .ref a ∧ Av Y a ∧ h.IsList a vs.toArray ∧ D.IsL Y h l vs
  | .qn x, v => ∃ a dx hs kt t n, v = .ref a ∧ Av Y a ∧ Av Y dx ∧ h.get? a = some (instObj QN dx) ∧ h.get? dx = some (dictOf [⟨hs, .str "text" kt, .str x t⟩] n)
  | .thing d, v => ∃ a dx fd hs kt u n, v = .ref a ∧ Av Y a ∧ Av Y dx ∧ h.get? a = some ⟨.type "function", some dx, .func fd, #[]⟩ ∧ h.get? dx = some (dictOf [⟨hs, .str "tag" kt, u⟩] n) ∧ D.Is Y h d u
  | .ex u d, v => v = u ∧ D.Is Y h d v
  | .slc lo hi, v => ∃ a vl vu, v = .ref a ∧ Av Y a ∧ h.get? a = some (sliceObj vl vu) ∧ PartIs lo vl ∧ PartIs hi vu
noncomputable def D.IsL (Y : Addr → Prop) (h : Heap) : List D → List Value → Prop
  | [], vs => vs = []
  | d :: l, vs => ∃ v r, vs = v :: r ∧ D.Is Y h d v ∧ D.IsL Y h l r
end

/-- what lets data move from one heap to another -/
structure Mv (Y Y' : Addr → Prop) (h h' : Heap) : Prop where
  y : ∀ b, Y' b → Y b ∨ h.objs.size ≤ b
  k : ∀ b o, h.get? b = some o → ¬ Y b → ¬ isTab b → h'.get? b = some o
theorem Mv.av {Y Y' : Addr → Prop} {h h' : Heap} (m : Mv Y Y' h h') {a : Addr} {o : Obj} (e : h.get? a = some o) (v : Av Y a) : Av Y' a ∧ h'.get? a = some o :=
  ⟨⟨fun z => (m.y a z).elim v.1 fun q => absurd (Heap.lt_size e) (Nat.not_lt.mpr q), v.2⟩, m.k a o e v.1 v.2⟩

mutual
theorem D.Is.move {Y Y' : Addr → Prop} {h h' : Heap} (m : Mv Y Y' h h') : ∀ {d : D} {v : Value}, D.Is Y h d v → D.Is Y' h' d v
  | .val u, v, x => by simpa only [D.Is] using x
  | .int i, v, x => by simpa only [D.Is] using x
  | .str i, v, x => by simpa only [D.Is] using x
  | .tup l, v, x => by
    simp only [D.Is] at x ⊢
    obtain ⟨a, vs, e, av, ⟨o, ho, r⟩, il⟩ := x
    exact ⟨a, vs, e, (m.av ho av).1, ⟨o, (m.av ho av).2, r⟩, D.IsL.move m il⟩
  | .lst l, v, x => by
    simp only [D.Is] at x ⊢
    obtain ⟨a, vs, e, av, ⟨o, ho, r⟩, il⟩ := x
    exact ⟨a, vs, e, (m.av ho av).1, ⟨o, (m.av ho av).2, r⟩, D.IsL.move m il⟩
  | .qn l, v, x => by
    simp only [D.Is] at x ⊢
    obtain ⟨a, dx, hs, kt, t, n, e, av, av2, ho, hd⟩ := x
    exact ⟨a, dx, hs, kt, t, n, e, (m.av ho av).1, (m.av hd av2).1, (m.av ho av).2, (m.av hd av2).2⟩
  | .thing d, v, x => by
    simp only [D.Is] at x ⊢
    obtain ⟨a, dx, fd, hs, kt, u, n, e, av, av2, ho, hd, id⟩ := x
    exact ⟨a, dx, fd, hs, kt, u, n, e, (m.av ho av).1, (m.av hd av2).1, (m.av ho av).2, (m.av hd av2).2, D.Is.move m id⟩
  | .ex u d, v, x => by
    simp only [D.Is] at x ⊢
    exact ⟨x.1, D.Is.move m x.2⟩
  | .slc lo hi, v, x => by
    simp only [D.Is] at x ⊢
    obtain ⟨a, vl, vu, e, av, ho, p, q⟩ := x
    exact ⟨a, vl, vu, e, (m.av ho av).1, (m.av ho av).2, p, q⟩
theorem D.IsL.move {Y Y' : Addr → Prop} {h h' : Heap} (m : Mv Y Y' h h') : ∀ {l : List D} {vs : List Value}, D.IsL Y h l vs → D.IsL Y' h' l vs
  | [], vs, x => by simpa only [D.IsL] using x
  | d :: l, vs, x => by
    simp only [D.IsL] at x ⊢
    obtain ⟨v, r, e, a, b⟩ := x
    exact ⟨v, r, e, D.Is.move m a, D.IsL.move m b⟩
end
theorem D.IsL.cons {Y : Addr → Prop} {h : Heap} {d : D} {l : List D} {v : Value} {vs : List Value} (a : d.Is Y h v) (b : D.IsL Y h l vs) : D.IsL Y h (d :: l) (v :: vs) := by
  simp only [D.IsL]; exact ⟨v, vs, rfl, a, b⟩
theorem D.IsL.nil {Y : Addr → Prop} {h : Heap} : D.IsL Y h [] [] := by simp only [D.IsL]
theorem D.IsL.length {Y : Addr → Prop} {h : Heap} : ∀ {l : List D} {vs : List Value}, D.IsL Y h l vs → vs.length = l.length
  | [], vs, x => by simp only [D.IsL] at x; rw [x]; rfl
  | d :: l, vs, x => by
    simp only [D.IsL] at x
    obtain ⟨v, r, rfl, _, b⟩ := x
    simp [D.IsL.length b]
theorem D.IsL.get {Y : Addr → Prop} {h : Heap} : ∀ {l : List D} {vs : List Value} (i : Nat) {d : D}, D.IsL Y h l vs → l[i]? = some d → ∃ v, vs[i]? = some v ∧ d.Is Y h v
  | [], _, _, _, _, e => by simp at e
  | d :: l, vs, 0, d', x, e => by
    simp only [D.IsL] at x
    obtain ⟨v, r, rfl, a, b⟩ := x
    simp at e; subst e
    exact ⟨v, rfl, a⟩
  | d :: l, vs, i + 1, d', x, e => by
    simp only [D.IsL] at x
    obtain ⟨v, r, rfl, a, b⟩ := x
    simpa using D.IsL.get i b (by simpa using e)
theorem D.IsL.append {Y : Addr → Prop} {h : Heap} : ∀ {l l' : List D} {vs vs' : List Value}, D.IsL Y h l vs → D.IsL Y h l' vs' → D.IsL Y h (l ++ l') (vs ++ vs')
  | [], _, vs, _, x, y => by simp only [D.IsL] at x; subst x; simpa using y
  | d :: l, _, vs, _, x, y => by
    simp only [D.IsL] at x
    obtain ⟨v, r, rfl, a, b⟩ := x
    exact .cons a (D.IsL.append b y)
theorem D.IsL.set {Y : Addr → Prop} {h : Heap} {d : D} {v : Value} (a : d.Is Y h v) : ∀ {l : List D} {vs : List Value} (i : Nat), D.IsL Y h l vs → D.IsL Y h (l.set i d) (vs.set i v)
  | [], vs, i, x => by simp only [D.IsL] at x; subst x; simpa using D.IsL.nil
  | d' :: l, vs, 0, x => by
    simp only [D.IsL] at x
    obtain ⟨v', r, rfl, _, b⟩ := x
    exact .cons a b
  | d' :: l, vs, i + 1, x => by
    simp only [D.IsL] at x
    obtain ⟨v', r, rfl, a', b⟩ := x
    exact .cons a' (D.IsL.set a i b)
theorem D.IsL.take {Y : Addr → Prop} {h : Heap} : ∀ {l : List D} {vs : List Value} (i : Nat), D.IsL Y h l vs → D.IsL Y h (l.take i) (vs.take i)
  | l, vs, 0, x => by simpa using D.IsL.nil
  | [], vs, i + 1, x => by simp only [D.IsL] at x; subst x; simpa using D.IsL.nil
  | d' :: l, vs, i + 1, x => by
    simp only [D.IsL] at x
    obtain ⟨v', r, rfl, a', b⟩ := x
    exact .cons a' (D.IsL.take i b)
theorem D.IsL.drop {Y : Addr → Prop} {h : Heap} : ∀ {l : List D} {vs : List Value} (i : Nat), D.IsL Y h l vs → D.IsL Y h (l.drop i) (vs.drop i)
  | l, vs, 0, x => by simpa using x
  | [], vs, i + 1, x => by simp only [D.IsL] at x; subst x; simpa using D.IsL.nil
  | d' :: l, vs, i + 1, x => by
    simp only [D.IsL] at x
    obtain ⟨v', r, rfl, a', b⟩ := x
    simpa using D.IsL.drop i b

/-- a frame -/
structure Fd where
  X : Addr → Prop
  env : Env
  nm : List Str
  lo : Nat
  st : Bool
/-- what a box holds: its value and its objects -/
noncomputable abbrev Bx := Value → List (Addr × Obj) → Prop
inductive Vr where
  | un
  | val (d : D)
  | box (B : Bx)
structure Mu where
  Z : Addr → Prop
  β : Addr → Nat
noncomputable def Yo (f : Fd) (μ : Mu) (a : Addr) : Prop := f.X a ∨ μ.Z a

/-- the objects of the box behind the name i -/
noncomputable def BoxAt (μ : Mu) (h : Heap) (i : Nat) (L : List (Addr × Obj)) : Prop := ∀ q ∈ L, μ.Z q.1 ∧ μ.β q.1 = i ∧ h.get? q.1 = some q.2 ∧ q.2.cls = .type "list" ∧ ∃ vs c, q.2.data = .seq vs c
theorem BoxAt.keep {μ : Mu} {h h' : Heap} {i : Nat} {L : List (Addr × Obj)} (b : BoxAt μ h i L) (k : ∀ a o, μ.Z a → h.get? a = some o → o.cls = .type "list" → (∃ vs c, o.data = .seq vs c) → h'.get? a = some o) : BoxAt μ h' i L :=
  fun q hq => let ⟨z, e, g, c, d⟩ := b q hq; ⟨z, e, k _ _ z g c d, c, d⟩
/-- the name x of the frame holds v -/
noncomputable def Has (env : Env) (h : Heap) (x : Str) (v : Value) : Prop :=
  (env.kindOf x = some .local ∧ ∃ m, h.Ns env.locals m ∧ m x = some v) ∨
  ((env.kindOf x = some .cell ∨ env.kindOf x = some .free) ∧ ∃ c, env.cells.lookup x = some c ∧ h.IsCell c (some v))

structure Fm (W : Wd) (f : Fd) (ρ : List Vr) (μ : Mu) (h : Heap) : Prop where
  kind : f.env.scope.kind = .function
  glob : f.env.globals = mainGlobals
  blt : f.env.builtins = builtinsNs
  nod : f.nm.Nodup
  ns : ∃ m, h.Ns f.env.locals m
  nsZ : μ.Z f.env.locals
  cel : f.st = true → ∀ x, x ∈ f.nm → f.env.kindOf x = some .cell → ∃ c v, f.env.cells.lookup x = some c ∧ h.IsCell c v ∧ μ.Z c
  ap : f.st = true → f.env.cells.Pairwise fun x y => x.2 ≠ y.2
  val : ∀ (i : Nat) (x : Str) (d : D), f.nm[i]? = some x → ρ[i]? = some (Vr.val d) → ∃ v, Has f.env h x v ∧ d.Is (Yo f μ) h v
  box : ∀ (i : Nat) (x : Str) (B : Bx), f.nm[i]? = some x → ρ[i]? = some (Vr.box B) → ∃ v L, Has f.env h x v ∧ B v L ∧ BoxAt μ h i L
  lt : ∀ a, Yo f μ a → a < h.objs.size ∧ W.B ≤ a
  low : ∀ a, μ.Z a → f.lo ≤ a
  base : W.B ≤ f.lo

noncomputable def Fz : Value → Shared → Prop := fun _ _ => False
noncomputable abbrev Po (W : Wd) (f : Fd) (μ : Mu) (s : Shared) (d : D) : Value → Shared → Prop := fun v s' => Kp No s s' ∧ Inv W s'.heap ∧ d.Is (Yo f μ) s'.heap v

noncomputable def Rm (n : Nat) (A : Around) : Prop := A.handled = none ∧ A.depth + n ≤ 900 ∧ A.units + 100 * n ≤ 9000
theorem Rm.hd {n : Nat} {A : Around} (r : Rm n A) : A.handled = none := r.1
theorem Rm.depth {n : Nat} {A : Around} (r : Rm n A) : A.depth < recursionLimit := by have := r.2.1; unfold recursionLimit; omega
theorem Rm.units {n : Nat} {A : Around} (r : Rm n A) : A.units < cLine := by have := r.2.2; unfold cLine; omega
theorem Rm.le {n m : Nat} {A : Around} (r : Rm n A) (h : m ≤ n) : Rm m A := ⟨r.1, by have := r.2.1; omega, by have := r.2.2; omega⟩
theorem Rm.down {n : Nat} {A A' : Around} (r : Rm (n + 1) A) (h1 : A'.handled = A.handled) (h2 : A'.depth ≤ A.depth + 1) (h3 : A'.units ≤ A.units + 100) : Rm n A' :=
  ⟨h1.trans r.1, by have := r.2.1; omega, by have := r.2.2; omega⟩
theorem Rm.deeper {n : Nat} {A : Around} (r : Rm (n + 1) A) (env : Env) : Rm n (A.deeper env) := r.down rfl (Nat.le_refl _) (by show A.units + 3 ≤ _; omega)
theorem Rm.in1 {n : Nat} {A : Around} (r : Rm (n + 1) A) : Rm n A.in1 := r.down rfl (Nat.le_succ _) (by show A.units + 1 ≤ _; omega)

/-- the expression's value is d, whatever the room and the state -/
noncomputable def Ev (W : Wd) (n : Nat) (f : Fd) (ρ : List Vr) (e : Expr) (d : D) : Prop :=
  ∀ A, Rm n A → ∀ s μ, Inv W s.heap → Fm W f ρ μ s.heap → wpAny W.M A (eval e f.env) (Po W f μ s d) Fz s
noncomputable def EvL (W : Wd) (n : Nat) (f : Fd) (ρ : List Vr) (es : List Expr) (ds : List D) : Prop :=
  ∀ A, Rm n A → ∀ pos s μ, Inv W s.heap → Fm W f ρ μ s.heap →
    wpAny W.M A (spliced (backTo pos (starEach es f.env))) (fun vs s' => Kp No s s' ∧ Inv W s'.heap ∧ D.IsL (Yo f μ) s'.heap ds vs) Fz s
noncomputable def Ts (W : Wd) (n : Nat) (f : Fd) (ρ : List Vr) (e : Expr) (b : Bool) : Prop :=
  ∀ A, Rm n A → ∀ s μ, Inv W s.heap → Fm W f ρ μ s.heap → wpAny W.M A (isTrue e f.env (eval e f.env)) (fun c s' => c = b ∧ Kp No s s' ∧ Inv W s'.heap) Fz s
/-- what a statement leaves -/
structure Af (W : Wd) (f : Fd) (μ : Mu) (s : Shared) (ρ' : List Vr) (μ' : Mu) (s' : Shared) : Prop where
  kp : Kp μ.Z s s'
  inv : Inv W s'.heap
  fm : Fm W f ρ' μ' s'.heap
  grow : ∀ a, μ'.Z a → μ.Z a ∨ s.heap.objs.size ≤ a
noncomputable def Ex (W : Wd) (n : Nat) (f : Fd) (ρ : List Vr) (st : Stmt) (ρ' : List Vr) : Prop :=
  ∀ A, Rm n A → ∀ s μ, Inv W s.heap → Fm W f ρ μ s.heap → wpAny W.M A (exec st f.env) (fun fl s' => fl = .next ∧ ∃ μ', Af W f μ s ρ' μ' s') Fz s
noncomputable def Exs (W : Wd) (n : Nat) (f : Fd) (ρ : List Vr) (sts : List Stmt) (ρ' : List Vr) : Prop :=
  ∀ A, Rm n A → ∀ s μ, Inv W s.heap → Fm W f ρ μ s.heap → wpAny W.M A (execs sts f.env) (fun fl s' => fl = .next ∧ ∃ μ', Af W f μ s ρ' μ' s') Fz s
/-- the statements end by handing back d -/
noncomputable def Rt (W : Wd) (n : Nat) (f : Fd) (ρ : List Vr) (sts : List Stmt) (d : D) : Prop :=
  ∀ A, Rm n A → ∀ s μ, Inv W s.heap → Fm W f ρ μ s.heap → wpAny W.M A (execs sts f.env) (fun fl s' => ∃ v, fl = .ret v ∧ Kp μ.Z s s' ∧ Inv W s'.heap ∧ d.Is f.X s'.heap v) Fz s

section
variable {W : Wd} {f : Fd} {ρ : List Vr} {μ : Mu} {h h' : Heap}
theorem Fm.notab (F : Fm W f ρ μ h) (V : W.Ok) {a : Addr} (y : Yo f μ a) : ¬ isTab a := fun t => absurd (V.lowT a t) (Nat.not_lt.mpr (F.lt a y).2)
theorem Fm.av (F : Fm W f ρ μ h) (V : W.Ok) {a : Addr} (ha : h.objs.size ≤ a) : Av (Yo f μ) a :=
  ⟨fun y => absurd (F.lt a y).1 (Nat.not_lt.mpr ha), fun t => absurd (V.lowT a t) (Nat.not_lt.mpr (Nat.le_trans F.base (Nat.le_trans (by
    obtain ⟨m, hm⟩ := F.ns
    exact Nat.le_of_lt (Nat.lt_of_le_of_lt (F.low _ F.nsZ) hm.lt)) ha)))⟩
theorem cell_notab (I : Inv W h) {c : Addr} {v : Option Value} (x : h.IsCell c v) : ¬ isTab c := by
  rintro ⟨q, hq, rfl⟩
  obtain ⟨ps, e, _⟩ := I.tab q hq
  obtain ⟨o, ho, hd⟩ := x
  rw [e] at ho; cases ho; cases hd
theorem ns_notab (I : Inv W h) {c : Addr} {m : Str → Option Value} (x : h.Ns c m) : ¬ isTab c := by
  rintro ⟨q, hq, rfl⟩
  obtain ⟨ps, e, _⟩ := I.tab q hq
  obtain ⟨o, es, ep, ho, hd, _⟩ := x
  rw [e] at ho; cases ho; cases hd
theorem cls_notab (I : Inv W h) {c : Addr} {o : Obj} (x : h.get? c = some o) (hc : o.cls ≠ .none) : ¬ isTab c := by
  rintro ⟨q, hq, rfl⟩
  obtain ⟨ps, e, _⟩ := I.tab q hq
  rw [e] at x; cases x; exact hc rfl
theorem Has.keep {env : Env} {x : Str} {v : Value} (I : Inv W h) (H : Has env h x v) (k : ∀ b o, h.get? b = some o → ¬ isTab b → h'.get? b = some o) : Has env h' x v := by
  rcases H with ⟨a, m, n, e⟩ | ⟨a, c, l, hc⟩
  · exact .inl ⟨a, m, n.at' fun o e => k _ o e (ns_notab I n), e⟩
  · exact .inr ⟨a, c, l, let ⟨o, ho, hd⟩ := hc; ⟨o, k _ _ ho (cell_notab I hc), hd⟩⟩
theorem Mv.of_kp {f : Fd} {μ : Mu} {s s' : Shared} (k : Kp No s s') : Mv (Yo f μ) (Yo f μ) s.heap s'.heap := ⟨fun _ z => .inl z, fun b o e _ t => k.keep b o e (fun z => z) t⟩

theorem Fm.step {s s' : Shared} (I : Inv W s.heap) (F : Fm W f ρ μ s.heap) (k : Kp No s s') : Fm W f ρ μ s'.heap := by
  have kk : ∀ b o, s.heap.get? b = some o → ¬ isTab b → s'.heap.get? b = some o := fun b o e t => k.keep b o e (fun z => z) t
  have mv := Mv.of_kp (f := f) (μ := μ) k
  refine ⟨F.kind, F.glob, F.blt, F.nod, ?_, F.nsZ, fun st x hx hk => ?_, F.ap, fun i x d hi hd => ?_, fun i x l hi hd => ?_, fun a y => ⟨Nat.lt_of_lt_of_le (F.lt a y).1 k.size, (F.lt a y).2⟩, F.low, F.base⟩
  · obtain ⟨m, hm⟩ := F.ns
    exact ⟨m, hm.at' fun o e => kk _ o e (ns_notab I hm)⟩
  · obtain ⟨c, v, l, hc, z⟩ := F.cel st x hx hk
    exact ⟨c, v, l, (let ⟨o, ho, hd⟩ := hc; ⟨o, kk _ _ ho (cell_notab I hc), hd⟩), z⟩
  · obtain ⟨v, H, id⟩ := F.val i x d hi hd
    exact ⟨v, H.keep I kk, id.move mv⟩
  · obtain ⟨v, L, H, b, hL⟩ := F.box i x l hi hd
    exact ⟨v, L, H.keep I kk, b, hL.keep fun a o z e c d => kk _ _ e (cls_notab I e (by rw [c]; simp))⟩
end

section
variable {W : Wd} {f : Fd} {ρ : List Vr} {n : Nat}
/-- from one expression's value to the next step -/
theorem Ev.use {e : Expr} {d : D} {A : Around} {s : Shared} {μ : Mu} {Q : Value → Shared → Prop} (x : Ev W n f ρ e d) (r : Rm n A) (I : Inv W s.heap) (F : Fm W f ρ μ s.heap)
    (h : ∀ v s', Kp No s s' → Inv W s'.heap → Fm W f ρ μ s'.heap → d.Is (Yo f μ) s'.heap v → Q v s') : wpAny W.M A (eval e f.env) Q Fz s :=
  wpAny_mono (x A r s μ I F) (fun v s' ⟨k, I', id⟩ => h v s' k I' (F.step I k) id) fun _ _ z => z

theorem Ev.name {x : Str} {d : D} {pos : Pos} (i : Nat) (hi : f.nm[i]? = some x) (hd : ρ[i]? = some (Vr.val d)) (hb : (x == ("__debug__" : Str)) = false := by decide) (hb2 : (x == ("__classdict__" : Str)) = false := by decide) : Ev W n f ρ (.Name x pos) d := by
  intro A r s μ I F
  obtain ⟨v, H, id⟩ := F.val i x d hi hd
  refine wpAny_Name ?_ hb
  rcases H with ⟨a, m, hn, e⟩ | ⟨a | a, c, l, hc⟩
  · exact wpAny_loadName_local F.kind a hn e ⟨Kp.refl _ _, I, id⟩
  · exact wpAny_loadName_cell F.kind a l hc ⟨Kp.refl _ _, I, id⟩
  · exact wpAny_loadName_free F.kind a l hc ⟨Kp.refl _ _, I, id⟩ hb2
end
end Mine
end
section -- S2
open PySem PySem.W PyProof.Rows PySem.Calls PySem.Spec
set_option Elab.async false
set_option maxRecDepth 100000
set_option linter.unusedVariables false
set_option autoImplicit false
namespace Mine

noncomputable def Yk (W : Wd) (Y : Addr → Prop) (h : Heap) : Prop := ∀ a, Y a → a < h.objs.size ∧ W.B ≤ a
noncomputable abbrev Pv (W : Wd) (Y : Addr → Prop) (s : Shared) (d : D) : Value → Shared → Prop := fun v s' => Kp No s s' ∧ Inv W s'.heap ∧ d.Is Y s'.heap v
noncomputable def F1 (W : Wd) (n : Nat) (t : Value → Sem Value) (d1 d : D) : Prop :=
  ∀ A, Rm n A → ∀ s Y v1, Inv W s.heap → Yk W Y s.heap → d1.Is Y s.heap v1 → wpAny W.M A (t v1) (Pv W Y s d) Fz s
noncomputable def F2 (W : Wd) (n : Nat) (t : Value → Value → Sem Value) (d1 d2 d : D) : Prop :=
  ∀ A, Rm n A → ∀ s Y v1 v2, Inv W s.heap → Yk W Y s.heap → d1.Is Y s.heap v1 → d2.Is Y s.heap v2 → wpAny W.M A (t v1 v2) (Pv W Y s d) Fz s
noncomputable def Fb (W : Wd) (n : Nat) (t : Value → Sem Bool) (d1 : D) (b : Bool) : Prop :=
  ∀ A, Rm n A → ∀ s Y v1, Inv W s.heap → Yk W Y s.heap → d1.Is Y s.heap v1 → wpAny W.M A (t v1) (fun c s' => c = b ∧ Kp No s s' ∧ Inv W s'.heap) Fz s
/-- a call of the value f -/
noncomputable def Cl (W : Wd) (n : Nat) (f : Value) (ds : List D) (d : D) : Prop :=
  ∀ A, Rm n A → ∀ s Y vs, Inv W s.heap → Yk W Y s.heap → D.IsL Y s.heap ds vs → wpAny W.M A (call f vs) (Pv W Y s d) Fz s

theorem Fm.yk {W : Wd} {f : Fd} {ρ : List Vr} {μ : Mu} {h : Heap} (F : Fm W f ρ μ h) : Yk W (Yo f μ) h := F.lt
theorem Yk.step {W : Wd} {Y : Addr → Prop} {s s' : Shared} (y : Yk W Y s.heap) (k : Kp No s s') : Yk W Y s'.heap := fun a ha => ⟨Nat.lt_of_lt_of_le (y a ha).1 k.size, (y a ha).2⟩
theorem D.Is.step {Y : Addr → Prop} {s s' : Shared} {d : D} {v : Value} (x : d.Is Y s.heap v) (k : Kp No s s') : d.Is Y s'.heap v :=
  x.move ⟨fun _ z => .inl z, fun b o e _ t => k.keep b o e (fun z => z) t⟩
theorem D.IsL.step {Y : Addr → Prop} {s s' : Shared} {d : List D} {v : List Value} (x : D.IsL Y s.heap d v) (k : Kp No s s') : D.IsL Y s'.heap d v :=
  x.move ⟨fun _ z => .inl z, fun b o e _ t => k.keep b o e (fun z => z) t⟩

/-- only the tokens moved -/
theorem Kp.toks (s : Shared) (tk : Nat) : Kp No s { s with toks := tk } := Kq.kp (s := s) (.refl _) fun _ _ z => z
theorem D.Is.int {Y : Addr → Prop} {h : Heap} {i : Int} {t : Tok} : D.Is Y h (.int i) (.int i t) := by simp only [D.Is]; exact ⟨t, rfl⟩
theorem D.Is.str {Y : Addr → Prop} {h : Heap} {i : Str} {t : Tok} : D.Is Y h (.str i) (.str i t) := by simp only [D.Is]; exact ⟨t, rfl⟩
theorem D.Is.val {Y : Addr → Prop} {h : Heap} {v : Value} : D.Is Y h (.val v) v := by simp only [D.Is]
theorem D.Is.int_iff {Y : Addr → Prop} {h : Heap} {i : Int} {v : Value} : D.Is Y h (.int i) v ↔ ∃ t, v = .int i t := by simp only [D.Is]
theorem D.Is.str_iff {Y : Addr → Prop} {h : Heap} {i : Str} {v : Value} : D.Is Y h (.str i) v ↔ ∃ t, v = .str i t := by simp only [D.Is]
theorem D.Is.val_iff {Y : Addr → Prop} {h : Heap} {u : Value} {v : Value} : D.Is Y h (.val u) v ↔ v = u := by simp only [D.Is]
theorem Pv.tk {W : Wd} {Y : Addr → Prop} {s : Shared} {d : D} {v : Value} (tk : Nat) (I : Inv W s.heap) (x : d.Is Y s.heap v) : Pv W Y s d v { s with toks := tk } := ⟨Kp.toks s tk, I, x⟩
theorem Pv.here {W : Wd} {Y : Addr → Prop} {s : Shared} {d : D} {v : Value} (I : Inv W s.heap) (x : d.Is Y s.heap v) : Pv W Y s d v s := ⟨Kp.refl _ _, I, x⟩
theorem Pv.trans {W : Wd} {Y : Addr → Prop} {s s' s'' : Shared} {d : D} {v : Value} (k : Kp No s s') (x : Pv W Y s' d v s'') : Pv W Y s d v s'' := ⟨k.trans0 x.1, x.2⟩

section
variable {W : Wd} {n : Nat} {f : Fd} {ρ : List Vr}
theorem F2.addI {a b : Int} : F2 W n (binaryOp .Add) (.int a) (.int b) (.int (a + b)) := by
  intro A r s Y v1 v2 I y i1 i2
  obtain ⟨t, rfl⟩ := D.Is.int_iff.mp i1
  obtain ⟨u, rfl⟩ := D.Is.int_iff.mp i2
  exact add_int (Pv.tk _ I D.Is.int)
theorem F2.subI {a b : Int} : F2 W n (binaryOp .Sub) (.int a) (.int b) (.int (a - b)) := by
  intro A r s Y v1 v2 I y i1 i2
  obtain ⟨t, rfl⟩ := D.Is.int_iff.mp i1
  obtain ⟨u, rfl⟩ := D.Is.int_iff.mp i2
  exact sub_int (Pv.tk _ I D.Is.int)
theorem F2.modI {a b : Int} (hb : b ≠ 0) : F2 W n (binaryOp .Mod) (.int a) (.int b) (.int (a.fmod b)) := by
  intro A r s Y v1 v2 I y i1 i2
  obtain ⟨t, rfl⟩ := D.Is.int_iff.mp i1
  obtain ⟨u, rfl⟩ := D.Is.int_iff.mp i2
  exact mod_int' hb (Pv.tk _ I D.Is.int)
theorem F2.divI {a b : Int} (hb : b ≠ 0) (hp : Builtin.divisionGoesByPylong a b = false) : F2 W n (binaryOp .FloorDiv) (.int a) (.int b) (.int (a.fdiv b)) := by
  intro A r s Y v1 v2 I y i1 i2
  obtain ⟨t, rfl⟩ := D.Is.int_iff.mp i1
  obtain ⟨u, rfl⟩ := D.Is.int_iff.mp i2
  exact floordiv_int hb (Pv.tk _ I D.Is.int) (.inl hp)
theorem F2.ltI {a b : Int} : F2 W n (compareOp .Lt) (.int a) (.int b) (D.bool (decide (a < b))) := by
  intro A r s Y v1 v2 I y i1 i2
  obtain ⟨t, rfl⟩ := D.Is.int_iff.mp i1
  obtain ⟨u, rfl⟩ := D.Is.int_iff.mp i2
  exact lt_int (Pv.here I D.Is.val)
theorem F2.leI {a b : Int} : F2 W n (compareOp .LtE) (.int a) (.int b) (D.bool (decide (a ≤ b))) := by
  intro A r s Y v1 v2 I y i1 i2
  obtain ⟨t, rfl⟩ := D.Is.int_iff.mp i1
  obtain ⟨u, rfl⟩ := D.Is.int_iff.mp i2
  exact le_int (Pv.here I D.Is.val)
theorem F2.gtI {a b : Int} : F2 W n (compareOp .Gt) (.int a) (.int b) (D.bool (decide (b < a))) := by
  intro A r s Y v1 v2 I y i1 i2
  obtain ⟨t, rfl⟩ := D.Is.int_iff.mp i1
  obtain ⟨u, rfl⟩ := D.Is.int_iff.mp i2
  exact gt_int (Pv.here I D.Is.val)
theorem F2.eqI {a b : Int} : F2 W n (compareOp .Eq) (.int a) (.int b) (D.bool (a == b)) := by
  intro A r s Y v1 v2 I y i1 i2
  obtain ⟨t, rfl⟩ := D.Is.int_iff.mp i1
  obtain ⟨u, rfl⟩ := D.Is.int_iff.mp i2
  exact eq_int (Pv.here I D.Is.val)
theorem F2.eqS {x y : Str} : F2 W n (compareOp .Eq) (.str x) (.str y) (D.bool (x == y)) := by
  intro A r s Y v1 v2 I y i1 i2
  obtain ⟨t, rfl⟩ := D.Is.str_iff.mp i1
  obtain ⟨u, rfl⟩ := D.Is.str_iff.mp i2
  exact eq_str (Pv.here I D.Is.val)
theorem F2.addS {x y : Str} (hs : x.length + y.length ≤ sizeLine) : F2 W n (binaryOp .Add) (.str x) (.str y) (.str (x ++ y)) := by
  intro A r s Y v1 v2 I y i1 i2
  obtain ⟨t, rfl⟩ := D.Is.str_iff.mp i1
  obtain ⟨u, rfl⟩ := D.Is.str_iff.mp i2
  exact add_str (fun t' tk => Pv.tk _ I D.Is.str) hs
theorem Fb.bool {b : Bool} : Fb W n truthy (D.bool b) b := by
  intro A r s Y v1 I y i1
  obtain rfl := D.Is.val_iff.mp i1
  exact wpAny_truthy_bool ⟨rfl, Kp.refl _ _, I⟩
theorem Fb.int {a : Int} : Fb W n truthy (.int a) (a != 0) := by
  intro A r s Y v1 I y i1
  obtain ⟨t, rfl⟩ := D.Is.int_iff.mp i1
  exact P.truthy_int ⟨rfl, Kp.refl _ _, I⟩
theorem Fb.none : Fb W n truthy D.none false := by
  intro A r s Y v1 I y i1
  obtain rfl := D.Is.val_iff.mp i1
  exact fun _ _ _ => ⟨rfl, Kp.refl _ _, I⟩
-- expressions
theorem Ev.int {i : Int} {k pos} : Ev W n f ρ (.Constant (.int i) k pos) (.int i) := fun A r s μ I F => wpAny_Constant_int (Pv.tk _ I D.Is.int)
theorem Ev.str {x : Str} {k pos} : Ev W n f ρ (.Constant (.str x) k pos) (.str x) := fun A r s μ I F => wpAny_Constant_str (Pv.tk _ I D.Is.str)
theorem Ev.noneC {k pos} : Ev W n f ρ (.Constant .none k pos) D.none := fun A r s μ I F => wpAny_Constant_none (Pv.here I D.Is.val)
theorem Ev.boolC {b k pos} : Ev W n f ρ (.Constant (.bool b) k pos) (D.bool b) := fun A r s μ I F => wpAny_Constant_bool (Pv.here I D.Is.val)
theorem Ev.bin {e1 e2 : Expr} {op pos} {d1 d2 d : D} (h1 : Ev W n f ρ e1 d1) (h2 : Ev W n f ρ e2 d2) (h : F2 W n (binaryOp op) d1 d2 d) : Ev W n f ρ (.BinOp e1 op e2 pos) d := by
  intro A r s μ I F
  refine wpAny_BinOp (h1.use r I F fun v1 s1 k1 I1 F1 i1 => h2.use r I1 F1 fun v2 s2 k2 I2 F2 i2 => ?_)
  exact wpAny_mono (h A r s2 _ v1 v2 I2 F2.yk (i1.step k2) i2) (fun v s' p => Pv.trans (k1.trans0 k2) p) fun _ _ z => z
theorem Ev.cmp {e1 e2 : Expr} {op pos} {d1 d2 d : D} (h1 : Ev W n f ρ e1 d1) (h2 : Ev W n f ρ e2 d2) (h : F2 W n (compareOp op) d1 d2 d) (hm : behindInMarks op e2 = false := by with_unfolding_all rfl) : Ev W n f ρ (.Compare e1 [op] [e2] pos) d := by
  intro A r s μ I F
  refine wpAny_Compare1 (hm := hm) (h1.use r I F fun v1 s1 k1 I1 F1 i1 => h2.use r I1 F1 fun v2 s2 k2 I2 F2 i2 => ?_)
  exact wpAny_mono (h A r s2 _ v1 v2 I2 F2.yk (i1.step k2) i2) (fun v s' p => Pv.trans (k1.trans0 k2) p) fun _ _ z => z
theorem Ts.cmp {e1 e2 : Expr} {op pos} {d1 d2 : D} {b : Bool} (h1 : Ev W n f ρ e1 d1) (h2 : Ev W n f ρ e2 d2) (h : F2 W n (compareOp op) d1 d2 (D.bool b)) (hm : behindInMarks op e2 = false := by with_unfolding_all rfl) : Ts W n f ρ (.Compare e1 [op] [e2] pos) b := by
  intro A r s μ I F
  refine wpAny_isTrue_Compare1 (hm := hm) (h1.use r I F fun v1 s1 k1 I1 F1 i1 => h2.use r I1 F1 fun v2 s2 k2 I2 F2 i2 => ?_)
  refine wpAny_mono (h A r s2 _ v1 v2 I2 F2.yk (i1.step k2) i2) (fun v s' p => ?_) fun _ _ z => z
  obtain ⟨k, I', i⟩ := p
  obtain rfl := D.Is.val_iff.mp i
  exact wpAny_truthy_bool ⟨rfl, (k1.trans0 k2).trans0 k, I'⟩
theorem Ts.not {e : Expr} {pos} {b : Bool} (h : Ts W n f ρ e b) : Ts W n f ρ (.UnaryOp .Not e pos) (!b) := by
  intro A r s μ I F
  exact wpAny_isTrue_Not (wpAny_mono (h A r s μ I F) (fun c s' p => ⟨by rw [p.1], p.2⟩) fun _ _ z => z)
/-- a test by its value -/
theorem Ts.ev {e : Expr} {d : D} {b : Bool} (h : Ev W n f ρ e d) (ht : Fb W n truthy d b) (he : isTrue e f.env (eval e f.env) = (do let v ← eval e f.env; standAt e.pos; holding [v] (truthy v)) := by rfl) : Ts W n f ρ e b := by
  intro A r s μ I F
  refine wpAny_isTrue_value (he := he) (h.use r I F fun v s1 k1 I1 F1 i1 => ?_)
  exact wpAny_mono (ht A r s1 _ v I1 F1.yk i1) (fun c s' p => ⟨p.1, k1.trans0 p.2.1, p.2.2⟩) fun _ _ z => z
theorem Ts.and {e1 e2 : Expr} {pos} {b1 b2 : Bool} (h1 : Ts W n f ρ e1 b1) (h2 : b1 = true → Ts W n f ρ e2 b2) : Ts W n f ρ (.BoolOp .And [e1, e2] pos) (b1 && b2) := by
  intro A r s μ I F
  refine wpAny_isTrue_BoolOp (wpAny_allTrue_And_cons (wpAny_mono (h1 A r s μ I F) (fun c s1 p => ?_) fun _ _ z => z))
  obtain ⟨rfl, k1, I1⟩ := p
  cases c with
  | false => exact ⟨rfl, k1, I1⟩
  | true =>
    refine wpAny_allTrue_And_cons (wpAny_mono (h2 rfl A r s1 μ I1 (F.step I k1)) (fun c s2 p => ?_) fun _ _ z => z)
    obtain ⟨rfl, k2, I2⟩ := p
    cases c with
    | false => exact ⟨rfl, k1.trans0 k2, I2⟩
    | true => exact wpAny_allTrue_And_nil ⟨rfl, k1.trans0 k2, I2⟩
theorem Ts.or {e1 e2 : Expr} {pos} {b1 b2 : Bool} (h1 : Ts W n f ρ e1 b1) (h2 : b1 = false → Ts W n f ρ e2 b2) : Ts W n f ρ (.BoolOp .Or [e1, e2] pos) (b1 || b2) := by
  intro A r s μ I F
  refine wpAny_isTrue_BoolOp (wpAny_allTrue_Or_cons (wpAny_mono (h1 A r s μ I F) (fun c s1 p => ?_) fun _ _ z => z))
  obtain ⟨rfl, k1, I1⟩ := p
  cases c with
  | true => exact ⟨rfl, k1, I1⟩
  | false =>
    refine wpAny_allTrue_Or_cons (wpAny_mono (h2 rfl A r s1 μ I1 (F.step I k1)) (fun c s2 p => ?_) fun _ _ z => z)
    obtain ⟨rfl, k2, I2⟩ := p
    cases c with
    | true => exact ⟨rfl, k1.trans0 k2, I2⟩
    | false => exact wpAny_allTrue_Or_nil ⟨rfl, k1.trans0 k2, I2⟩
theorem Ev.ife {t e1 e2 : Expr} {pos} {b : Bool} {d : D} (ht : Ts W n f ρ t b) (h1 : b = true → Ev W n f ρ e1 d) (h2 : b = false → Ev W n f ρ e2 d) : Ev W n f ρ (.IfExp t e1 e2 pos) d := by
  intro A r s μ I F
  refine wpAny_IfExp (wpAny_mono (ht A r s μ I F) (fun c s1 p => ?_) fun _ _ z => z)
  obtain ⟨rfl, k1, I1⟩ := p
  cases c with
  | true => exact (h1 rfl).use r I1 (F.step I k1) fun v s' k I' F' i => ⟨k1.trans0 k, I', i⟩
  | false => exact (h2 rfl).use r I1 (F.step I k1) fun v s' k I' F' i => ⟨k1.trans0 k, I', i⟩
/-- value of «x or y» where x is a bool -/
theorem Ev.orB {e1 e2 : Expr} {pos} {b1 b2 : Bool} (h1 : Ev W n f ρ e1 (D.bool b1)) (h2 : b1 = false → Ev W n f ρ e2 (D.bool b2)) : Ev W n f ρ (.BoolOp .Or [e1, e2] pos) (D.bool (b1 || b2)) := by
  intro A r s μ I F
  refine wpAny_Or2 (h1.use r I F fun v s1 k1 I1 F1 i1 => ?_)
  obtain rfl := D.Is.val_iff.mp i1
  refine wpAny_truthy_bool ?_
  cases b1 with
  | true => exact ⟨k1, I1, i1⟩
  | false => exact (h2 rfl).use r I1 F1 fun v s' k I' F' i => ⟨k1.trans0 k, I', i⟩
-- lists of expressions
theorem EvL.nil : EvL W n f ρ [] [] := fun A r pos s μ I F => wpAny_items_nil ⟨Kp.refl _ _, I, .nil⟩
theorem EvL.cons {e : Expr} {es : List Expr} {d : D} {ds : List D} (h : Ev W n f ρ e d) (hl : EvL W n f ρ es ds) (he : starEach (e :: es) f.env = (false, eval e f.env) :: starEach es f.env := by rfl) : EvL W n f ρ (e :: es) (d :: ds) := by
  intro A r pos s μ I F
  refine wpAny_items_cons (he := he) (h.use r I F fun v s1 k1 I1 F1 i1 => ?_)
  exact wpAny_mono (hl A r pos s1 μ I1 F1) (fun vs s2 p => ⟨k1.trans0 p.1, p.2.1, .cons (i1.step p.1) p.2.2⟩) fun _ _ z => z
theorem Kp.push {s : Shared} (o : Obj) : Kp No s { s with heap := s.heap.push o } := Kq.kp (s := s) (tk := s.toks) (.push _ _) fun _ _ z => z
theorem Inv.push {h : Heap} (V : W.Ok) (I : Inv W h) (o : Obj) : Inv W (h.push o) := I.step V (.push h o) fun _ z => z.elim
theorem Yk.av {Y : Addr → Prop} {h : Heap} (V : W.Ok) (I : Inv W h) (y : Yk W Y h) {a : Addr} (ha : h.objs.size ≤ a) : Av Y a :=
  ⟨fun z => absurd (y a z).1 (Nat.not_lt.mpr ha), fun t => absurd (V.lowT a t) (Nat.not_lt.mpr (Nat.le_trans I.size ha))⟩
theorem newTup {Y : Addr → Prop} {s : Shared} {ds : List D} {vs : List Value} {A : Around} (V : W.Ok) (I : Inv W s.heap) (y : Yk W Y s.heap) (il : D.IsL Y s.heap ds vs) (hsz : vs.length ≤ sizeLine) :
    wpAny W.M A (newTuple vs) (Pv W Y s (.tup ds)) Fz s := by
  refine wpAny_newObj_type ⟨Kp.push _, I.push V _, ?_⟩ (by show vs.toArray.size ≤ sizeLine; rw [List.size_toArray]; exact hsz)
  simp only [D.Is]
  exact ⟨_, vs, rfl, y.av V I (Nat.le_refl _), ⟨_, Heap.get?_push_size _ rfl, rfl, _, rfl⟩, D.IsL.step (s' := { s with heap := s.heap.push _ }) il (Kp.push _)⟩
theorem newLst {Y : Addr → Prop} {s : Shared} {ds : List D} {vs : List Value} {A : Around} (V : W.Ok) (I : Inv W s.heap) (y : Yk W Y s.heap) (il : D.IsL Y s.heap ds vs) (hsz : vs.length ≤ sizeLine) :
    wpAny W.M A (newList vs) (Pv W Y s (.lst ds)) Fz s := by
  refine wpAny_newObj_type ⟨Kp.push _, I.push V _, ?_⟩ (by show vs.toArray.size ≤ sizeLine; rw [List.size_toArray]; exact hsz)
  simp only [D.Is]
  exact ⟨_, vs, rfl, y.av V I (Nat.le_refl _), ⟨_, Heap.get?_push_size _ rfl, rfl, _, rfl⟩, D.IsL.step (s' := { s with heap := s.heap.push _ }) il (Kp.push _)⟩
theorem Ev.tup {es : List Expr} {k pos} {ds : List D} (V : W.Ok) (h : EvL W n f ρ es ds) (hsz : ds.length ≤ sizeLine) : Ev W n f ρ (.Tuple es k pos) (.tup ds) := by
  intro A r s μ I F
  refine Tuple_ (wpAny_mono (h A r pos s μ I F) (fun vs s1 p => ?_) fun _ _ z => z)
  exact wpAny_mono (newTup V p.2.1 (F.step I p.1).yk p.2.2 (by rw [p.2.2.length]; exact hsz)) (fun v s' q => Pv.trans p.1 q) fun _ _ z => z
theorem Ev.lst {es : List Expr} {pos} {ds : List D} (V : W.Ok) (h : EvL W n f ρ es ds) (hsz : ds.length ≤ sizeLine) : Ev W n f ρ (.List es pos) (.lst ds) := by
  intro A r s μ I F
  refine List_ (wpAny_mono (h A r pos s μ I F) (fun vs s1 p => ?_) fun _ _ z => z)
  exact wpAny_mono (newLst V p.2.1 (F.step I p.1).yk p.2.2 (by rw [p.2.2.length]; exact hsz)) (fun v s' q => Pv.trans p.1 q) fun _ _ z => z
end
end Mine
end
section -- S3
open PySem PySem.W PyProof.Rows PySem.Calls PySem.Spec
set_option Elab.async false
set_option maxRecDepth 100000
set_option linter.unusedVariables false
set_option autoImplicit false
namespace Mine

theorem nodup_idx {α : Type} {l : List α} (h : l.Nodup) {i j : Nat} {x : α} (hi : l[i]? = some x) (hj : l[j]? = some x) : i = j := by
  obtain ⟨li, ei⟩ := List.getElem?_eq_some_iff.mp hi
  exact (List.getElem?_inj li h).mp (hi.trans hj.symm)
theorem ns_unique {h : Heap} {a : Addr} {m m' : Str → Option Value} (x : h.Ns a m) (y : h.Ns a m') : m = m' := by
  obtain ⟨o, es, ep, ho, hd, _, hf⟩ := x
  obtain ⟨o', es', ep', ho', hd', _, hf'⟩ := y
  rw [ho] at ho'; cases ho'
  rw [hd] at hd'; cases hd'
  funext z; rw [← hf z, ← hf' z]

section
variable {W : Wd} {f : Fd} {ρ : List Vr} {μ : Mu} {n : Nat}
theorem ns_ne_cell {h : Heap} {L c : Addr} {m : Str → Option Value} {v : Option Value} (a : h.Ns L m) (b : h.IsCell c v) : c ≠ L := by
  rintro rfl
  obtain ⟨o, es, ep, ho, hd, _⟩ := a
  obtain ⟨o', ho', hd'⟩ := b
  rw [ho] at ho'; cases ho'; rw [hd] at hd'; cases hd'
theorem ns_ne_list {h : Heap} {L c : Addr} {m : Str → Option Value} {v : Array Value} (a : h.Ns L m) (b : h.IsList c v) : c ≠ L := by
  rintro rfl
  obtain ⟨o, es, ep, ho, hd, _⟩ := a
  obtain ⟨o', ho', _, n, hd'⟩ := b
  rw [ho] at ho'; cases ho'; rw [hd] at hd'; cases hd'
theorem ns_ne_seq {h : Heap} {L c : Addr} {m : Str → Option Value} {o : Obj} (a : h.Ns L m) (e : h.get? c = some o) (d : ∃ vs k, o.data = .seq vs k) : c ≠ L := by
  rintro rfl
  obtain ⟨o', es, ep, ho, hd, _⟩ := a
  obtain ⟨vs, k, d⟩ := d
  rw [ho] at e; cases e; rw [hd] at d; cases d
theorem cell_ne_seq {h : Heap} {L c : Addr} {m : Option Value} {o : Obj} (a : h.IsCell L m) (e : h.get? c = some o) (d : ∃ vs k, o.data = .seq vs k) : c ≠ L := by
  rintro rfl
  obtain ⟨o', ho, hd⟩ := a
  obtain ⟨vs, k, d⟩ := d
  rw [ho] at e; cases e; rw [hd] at d; cases d
/-- the frame behind a store into one own object; what is told of the names is told anew -/
theorem Fm.own {s s' : Shared} {a : Addr} {ρ' : List Vr} (F : Fm W f ρ μ s.heap) (hs : Heap.SameBut a s.heap s'.heap) (za : μ.Z a)
    (ns : ∃ m, s'.heap.Ns f.env.locals m)
    (cel : f.st = true → ∀ x, x ∈ f.nm → f.env.kindOf x = some .cell → ∃ c v, f.env.cells.lookup x = some c ∧ s'.heap.IsCell c v ∧ μ.Z c)
    (val : ∀ (i : Nat) (x : Str) (d : D), f.nm[i]? = some x → ρ'[i]? = some (Vr.val d) → ∃ v, Has f.env s'.heap x v ∧ d.Is (Yo f μ) s'.heap v)
    (box : ∀ (i : Nat) (x : Str) (B : Bx), f.nm[i]? = some x → ρ'[i]? = some (Vr.box B) → ∃ v L, Has f.env s'.heap x v ∧ B v L ∧ BoxAt μ s'.heap i L) : Fm W f ρ' μ s'.heap :=
  ⟨F.kind, F.glob, F.blt, F.nod, ns, F.nsZ, cel, F.ap, val, box, fun b y => by rw [hs.1]; exact F.lt b y, F.low, F.base⟩

theorem Mv.own {s s' : Shared} {a : Addr} (hs : Heap.SameBut a s.heap s'.heap) (za : μ.Z a) : Mv (Yo f μ) (Yo f μ) s.heap s'.heap :=
  ⟨fun _ z => .inl z, fun b o e y _ => (hs.2 b (fun q => y (by rw [q]; exact .inr za))).trans e⟩

theorem set_other {ρ : List Vr} {i j : Nat} {a b : Vr} (hij : j ≠ i) (e : (ρ.set i a)[j]? = some b) : ρ[j]? = some b := by
  rwa [List.getElem?_set_ne (Ne.symm hij)] at e

theorem Fm.setL {s s' : Shared} {x : Str} {v : Value} {d : D} {m : Str → Option Value} {i : Nat} (F : Fm W f ρ μ s.heap) (hx : f.nm[i]? = some x) (hk : f.env.kindOf x = some .local)
    (hn : s.heap.Ns f.env.locals m) (hn' : s'.heap.Ns f.env.locals (fun y => if y = x then some v else m y)) (hs : Heap.SameBut f.env.locals s.heap s'.heap) (id : d.Is (Yo f μ) s.heap v) :
    Fm W f (ρ.set i (.val d)) μ s'.heap := by
  have mv : Mv (Yo f μ) (Yo f μ) s.heap s'.heap := .own hs F.nsZ
  have hcell : ∀ c u, s.heap.IsCell c u → s'.heap.IsCell c u := fun c u hc => hc.sameBut hs (ns_ne_cell hn hc)
  have has : ∀ j y u, j ≠ i → f.nm[j]? = some y → Has f.env s.heap y u → Has f.env s'.heap y u := fun j y u hj hy H => by
    have hyx : y ≠ x := fun q => hj (nodup_idx F.nod hy (q ▸ hx))
    rcases H with ⟨a, m₁, n₁, e⟩ | ⟨a, c, l, hc⟩
    · refine .inl ⟨a, _, hn', ?_⟩
      rw [if_neg hyx, ns_unique hn n₁]; exact e
    · exact .inr ⟨a, c, l, hcell c _ hc⟩
  refine F.own hs F.nsZ ⟨_, hn'⟩ (fun st y hy hyk => ?_) (fun j y d' hj hd => ?_) (fun j y l hj hd => ?_)
  · obtain ⟨c, u, l, hc, z⟩ := F.cel st y hy hyk
    exact ⟨c, u, l, hcell c u hc, z⟩
  · by_cases hji : j = i
    · subst hji
      rw [hx] at hj; cases hj
      have : d' = d := by
        rw [List.getElem?_set] at hd
        split at hd
        · split at hd
          · cases hd; rfl
          · cases hd
        · exact absurd rfl ‹_›
      subst this
      exact ⟨v, .inl ⟨hk, _, hn', by simp⟩, id.move mv⟩
    · obtain ⟨u, H, id'⟩ := F.val j y d' hj (set_other hji hd)
      exact ⟨u, has j y u hji hj H, id'.move mv⟩
  · by_cases hji : j = i
    · subst hji
      rw [List.getElem?_set] at hd
      split at hd
      · split at hd <;> cases hd
      · exact absurd rfl ‹_›
    · obtain ⟨u, L, H, b, hL⟩ := F.box j y l hj (set_other hji hd)
      exact ⟨u, L, has j y _ hji hj H, b, hL.keep fun a o z e c d => (hs.2 a (ns_ne_seq hn e d)).trans e⟩

theorem Fm.setC {s s' : Shared} {x : Str} {v : Value} {v₀ : Option Value} {d : D} {c : Addr} {i : Nat} (F : Fm W f ρ μ s.heap) (st : f.st = true) (hx : f.nm[i]? = some x) (hk : f.env.kindOf x = some .cell)
    (hl : f.env.cells.lookup x = some c) (zc : μ.Z c) (hc₀ : s.heap.IsCell c v₀) (hc : s'.heap.IsCell c (some v)) (hs : Heap.SameBut c s.heap s'.heap) (id : d.Is (Yo f μ) s.heap v) :
    Fm W f (ρ.set i (.val d)) μ s'.heap := by
  have mv : Mv (Yo f μ) (Yo f μ) s.heap s'.heap := .own hs zc
  have hns : ∀ m, s.heap.Ns f.env.locals m → s'.heap.Ns f.env.locals m := fun m hm => hm.sameBut hs (Ne.symm (ns_ne_cell hm hc₀))
  have hcell : ∀ y c' u, y ≠ x → f.env.cells.lookup y = some c' → s.heap.IsCell c' u → s'.heap.IsCell c' u := fun y c' u hy l' hu =>
    hu.sameBut hs fun q => hy (name_of_addr (F.ap st) (mem_of_lookup l') (q ▸ mem_of_lookup hl))
  have has : ∀ j y u, j ≠ i → f.nm[j]? = some y → Has f.env s.heap y u → Has f.env s'.heap y u := fun j y u hj hy H => by
    have hyx : y ≠ x := fun q => hj (nodup_idx F.nod hy (q ▸ hx))
    rcases H with ⟨a, m₁, n₁, e⟩ | ⟨a, c', l, hu⟩
    · exact .inl ⟨a, m₁, hns _ n₁, e⟩
    · exact .inr ⟨a, c', l, hcell y c' _ hyx l hu⟩
  refine F.own hs zc (let ⟨m, hm⟩ := F.ns; ⟨m, hns m hm⟩) (fun st y hy hyk => ?_) (fun j y d' hj hd => ?_) (fun j y l hj hd => ?_)
  · obtain ⟨c', u, l, hu, z⟩ := F.cel st y hy hyk
    by_cases hyx : y = x
    · subst hyx
      rw [hl] at l; cases l
      exact ⟨c, some v, hl, hc, zc⟩
    · exact ⟨c', u, l, hcell y c' u hyx l hu, z⟩
  · by_cases hji : j = i
    · subst hji
      rw [hx] at hj; cases hj
      have : d' = d := by
        rw [List.getElem?_set] at hd
        split at hd
        · split at hd
          · cases hd; rfl
          · cases hd
        · exact absurd rfl ‹_›
      subst this
      exact ⟨v, .inr ⟨.inl hk, c, hl, hc⟩, id.move mv⟩
    · obtain ⟨u, H, id'⟩ := F.val j y d' hj (set_other hji hd)
      exact ⟨u, has j y u hji hj H, id'.move mv⟩
  · by_cases hji : j = i
    · subst hji
      rw [List.getElem?_set] at hd
      split at hd
      · split at hd <;> cases hd
      · exact absurd rfl ‹_›
    · obtain ⟨u, L, H, b, hL⟩ := F.box j y l hj (set_other hji hd)
      exact ⟨u, L, has j y _ hji hj H, b, hL.keep fun a o z e c d => (hs.2 a (cell_ne_seq hc₀ e d)).trans e⟩

theorem ns_noCode {h : Heap} {L : Addr} {m : Str → Option Value} (a : h.Ns L m) : ∃ o, h.get? L = some o ∧ ¬ isCode o := by
  obtain ⟨o, es, ep, ho, hd, _⟩ := a
  exact ⟨o, ho, fun ⟨_, vs, e⟩ => by rw [hd] at e; cases e⟩
theorem cell_noCode {h : Heap} {L : Addr} {m : Option Value} (a : h.IsCell L m) : ∃ o, h.get? L = some o ∧ ¬ isCode o := by
  obtain ⟨o, ho, hd⟩ := a
  exact ⟨o, ho, fun ⟨_, vs, e⟩ => by rw [hd] at e; cases e⟩
theorem list_noCode {h : Heap} {L : Addr} {m : Array Value} (a : h.IsList L m) : ∃ o, h.get? L = some o ∧ ¬ isCode o := by
  obtain ⟨o, ho, hc, n, hd⟩ := a
  exact ⟨o, ho, fun ⟨_, vs, e⟩ => by rw [hd] at e; cases e⟩

/-- one own object is changed -/
theorem Fm.kq {h h' : Heap} {a : Addr} {o : Obj} (F : Fm W f ρ μ h) (hs : Heap.SameBut a h h') (za : μ.Z a) (ho : h.get? a = some o) (hc : ¬ isCode o) : Kq μ.Z h h' :=
  (Kq.one hs ho hc).weaken fun b e => .inl (e ▸ za)
theorem Fm.highZ {h : Heap} (F : Fm W f ρ μ h) : ∀ b, μ.Z b → W.B ≤ b := fun b z => (F.lt b (.inr z)).2

/-- what a store into a name of the frame may change -/
noncomputable def Zs (f : Fd) (μ : Mu) (b : Addr) : Prop := μ.Z b ∧ (f.st = false → b = f.env.locals)
/-- a store into a name of the frame's own -/
theorem sto0 {A : Around} {s : Shared} {x : Str} {v : Value} {d : D} {i : Nat} {Q : Unit → Shared → Prop} (V : W.Ok) (I : Inv W s.heap) (F : Fm W f ρ μ s.heap) (hx : f.nm[i]? = some x)
    (hk : f.env.kindOf x = some .local ∨ f.env.kindOf x = some .cell ∧ f.st = true) (id : d.Is (Yo f μ) s.heap v)
    (h : ∀ s', Kp (Zs f μ) s s' → Inv W s'.heap → Fm W f (ρ.set i (.val d)) μ s'.heap → Q () s') : wpAny W.M A (storeName f.env x v) Q Fz s := by
  have hB : ∀ b, Zs f μ b → W.B ≤ b := fun b z => F.highZ b z.1
  rcases hk with hk | ⟨hk, st⟩
  · obtain ⟨m, hm⟩ := F.ns
    obtain ⟨o, ho, hc⟩ := ns_noCode hm
    refine wpAny_storeName_local hk hm (fun h' hn' hs' => ?_) (by rw [F.kind]; rfl)
    have kq : Kq (Zs f μ) s.heap h' := (Kq.one hs' ho hc).weaken fun b e => .inl (e ▸ ⟨F.nsZ, fun _ => rfl⟩)
    exact h _ (kq.kp (V.high hB)) (I.step V kq hB) (F.setL (s' := { s with heap := h', toks := s.toks + 1 }) hx hk hm hn' hs' id)
  · obtain ⟨c, v₀, l, hc₀, z⟩ := F.cel st x (List.mem_of_getElem? hx) hk
    obtain ⟨o, ho, hc⟩ := cell_noCode hc₀
    refine wpAny_storeName_cell F.kind hk l hc₀ fun h' hc' hs' => ?_
    have kq : Kq (Zs f μ) s.heap h' := (Kq.one hs' ho hc).weaken fun b e => .inl (e ▸ ⟨z, fun q => by rw [st] at q; cases q⟩)
    exact h _ (kq.kp (tk := s.toks) (V.high hB)) (I.step V kq hB) (F.setC (s' := { s with heap := h' }) st hx hk l z hc₀ hc' hs' id)
theorem sto {A : Around} {s : Shared} {x : Str} {v : Value} {d : D} {i : Nat} {Q : Unit → Shared → Prop} (V : W.Ok) (I : Inv W s.heap) (F : Fm W f ρ μ s.heap) (hx : f.nm[i]? = some x)
    (hk : f.env.kindOf x = some .local ∨ f.env.kindOf x = some .cell ∧ f.st = true) (id : d.Is (Yo f μ) s.heap v)
    (h : ∀ s', Kp μ.Z s s' → Inv W s'.heap → Fm W f (ρ.set i (.val d)) μ s'.heap → Q () s') : wpAny W.M A (storeName f.env x v) Q Fz s :=
  sto0 V I F hx hk id fun s' k => h s' (k.weaken fun b z => .inl z.1)

theorem Af.of {s s' : Shared} {ρ' : List Vr} (k : Kp μ.Z s s') (I : Inv W s'.heap) (F : Fm W f ρ' μ s'.heap) : Af W f μ s ρ' μ s' := ⟨k, I, F, fun _ z => .inl z⟩
theorem Af.pre {s s' s'' : Shared} {ρ' : List Vr} {μ' : Mu} (k : Kp No s s') (a : Af W f μ s' ρ' μ' s'') : Af W f μ s ρ' μ' s'' :=
  ⟨k.up.trans a.kp fun _ z => .inl z, a.inv, a.fm, fun b z => (a.grow b z).imp_right fun q => Nat.le_trans k.size q⟩
theorem Af.trans {s s' s'' : Shared} {ρ' ρ'' : List Vr} {μ' μ'' : Mu} (a : Af W f μ s ρ' μ' s') (b : Af W f μ' s' ρ'' μ'' s'') : Af W f μ s ρ'' μ'' s'' :=
  ⟨a.kp.trans b.kp a.grow, b.inv, b.fm, fun c z => (b.grow c z).elim (a.grow c) fun q => .inr (Nat.le_trans a.kp.size q)⟩

theorem Ex.assign {x : Str} {px : Pos} {e : Expr} {pos : Pos} {d : D} (i : Nat) (V : W.Ok) (he : Ev W n f ρ e d) (hx : f.nm[i]? = some x) (hk : f.env.kindOf x = some .local ∨ f.env.kindOf x = some .cell ∧ f.st = true)
    (hs : swapsWith e (some (.Name x px)) pos.line f.env = pure false := by rfl) : Ex W n f ρ (.Assign [.Name x px] e pos) (ρ.set i (.val d)) := by
  intro A r s μ I F
  refine wpAny_Assign_Name (hs := hs) (he.use r I F fun v s1 k1 I1 F1 i1 => ?_)
  exact sto V I1 F1 hx hk i1 fun s2 k2 I2 F2 => ⟨rfl, μ, Af.pre k1 (.of k2 I2 F2)⟩
theorem Exs.nil : Exs W n f ρ [] ρ := fun A r s μ I F => wpAny_execs_nil ⟨rfl, μ, .of (Kp.refl _ _) I F⟩
theorem Exs.cons {st : Stmt} {sts : List Stmt} {ρ' ρ'' : List Vr} (h : Ex W n f ρ st ρ') (hs : Exs W n f ρ' sts ρ'') : Exs W n f ρ (st :: sts) ρ'' := by
  intro A r s μ I F
  refine wpAny_execs_cons (wpAny_mono (h A r s μ I F) (fun fl s1 p => ?_) fun _ _ z => z)
  obtain ⟨rfl, μ1, a1⟩ := p
  exact wpAny_mono (hs A r s1 μ1 a1.inv a1.fm) (fun fl s2 p => ⟨p.1, let ⟨μ2, a2⟩ := p.2; ⟨μ2, a1.trans a2⟩⟩) fun _ _ z => z
theorem Rt.cons {st : Stmt} {sts : List Stmt} {ρ' : List Vr} {d : D} (h : Ex W n f ρ st ρ') (hs : Rt W n f ρ' sts d) : Rt W n f ρ (st :: sts) d := by
  intro A r s μ I F
  refine wpAny_execs_cons (wpAny_mono (h A r s μ I F) (fun fl s1 p => ?_) fun _ _ z => z)
  obtain ⟨rfl, μ1, a1⟩ := p
  refine wpAny_mono (hs A r s1 μ1 a1.inv a1.fm) (fun fl s2 p => ?_) fun _ _ z => z
  obtain ⟨v, rfl, k, I', i⟩ := p
  exact ⟨v, rfl, a1.kp.trans k a1.grow, I', i⟩
theorem D.Is.drop {Y Y' : Addr → Prop} {h : Heap} {d : D} {v : Value} (x : d.Is Y h v) (hy : ∀ a, Y' a → Y a) : d.Is Y' h v := x.move ⟨fun b z => .inl (hy b z), fun _ _ e _ _ => e⟩
theorem Rt.ret {e : Expr} {pos : Pos} {sts : List Stmt} {d : D} (h : Ev W n f ρ e d) : Rt W n f ρ (.Return (some e) pos :: sts) d := by
  intro A r s μ I F
  refine wpAny_execs_cons (wpAny_Return_some (h.use r I F fun v s1 k1 I1 F1 i1 => ?_))
  exact ⟨v, rfl, k1.up, I1, i1.drop fun _ z => .inl z⟩
theorem Ex.ife {t : Expr} {b : Bool} {body orelse : List Stmt} {pos : Pos} {ρ' : List Vr} (ht : Ts W n f ρ t b) (h1 : b = true → Exs W n f ρ body ρ') (h2 : b = false → Exs W n f ρ orelse ρ') : Ex W n f ρ (.If t body orelse pos) ρ' := by
  intro A r s μ I F
  refine wpAny_If (wpAny_mono (ht A r s μ I F) (fun c s1 p => ?_) fun _ _ z => z)
  obtain ⟨rfl, k1, I1⟩ := p
  cases c with
  | true => exact wpAny_mono (h1 rfl A r s1 μ I1 (F.step I k1)) (fun fl s2 p => ⟨p.1, let ⟨μ2, a2⟩ := p.2; ⟨μ2, a2.pre k1⟩⟩) fun _ _ z => z
  | false => exact wpAny_mono (h2 rfl A r s1 μ I1 (F.step I k1)) (fun fl s2 p => ⟨p.1, let ⟨μ2, a2⟩ := p.2; ⟨μ2, a2.pre k1⟩⟩) fun _ _ z => z
/-- an if whose one side hands back, with the rest behind it -/
theorem Rt.ife {t : Expr} {b : Bool} {body orelse sts : List Stmt} {pos : Pos} {d : D} (ht : Ts W n f ρ t b) (h1 : b = true → Rt W n f ρ body d) (h2 : b = false → ∃ ρ', Exs W n f ρ orelse ρ' ∧ Rt W n f ρ' sts d) : Rt W n f ρ (.If t body orelse pos :: sts) d := by
  intro A r s μ I F
  refine wpAny_execs_cons (wpAny_If (wpAny_mono (ht A r s μ I F) (fun c s1 p => ?_) fun _ _ z => z))
  obtain ⟨rfl, k1, I1⟩ := p
  have F1 := F.step I k1
  cases c with
  | true =>
    refine wpAny_mono (h1 rfl A r s1 μ I1 F1) (fun fl s2 p => ?_) fun _ _ z => z
    obtain ⟨v, rfl, k, I', i⟩ := p
    exact ⟨v, rfl, k1.up.trans k fun _ z => .inl z, I', i⟩
  | false =>
    obtain ⟨ρ', he, hr⟩ := h2 rfl
    refine wpAny_mono (he A r s1 μ I1 F1) (fun fl s2 p => ?_) fun _ _ z => z
    obtain ⟨rfl, μ2, a2⟩ := p
    refine wpAny_mono (hr A r s2 μ2 a2.inv a2.fm) (fun fl s3 p => ?_) fun _ _ z => z
    obtain ⟨v, rfl, k, I', i⟩ := p
    exact ⟨v, rfl, (a2.pre k1).kp.trans k (a2.pre k1).grow, I', i⟩
end
end Mine
end
section -- S4
open PySem PySem.W PyProof.Rows PySem.Calls PySem.Spec
set_option Elab.async false
set_option maxRecDepth 100000
set_option linter.unusedVariables false
set_option autoImplicit false
namespace Mine

section
variable {W : Wd} {f : Fd} {ρ : List Vr} {μ : Mu} {n : Nat}

theorem Ev.gname {x : Str} {v : Value} {pos : Pos} (V : W.Ok) (hx : f.env.kindOf x = some .globalImplicit) (e : nsIn W.K mainGlobals x = some (some v)) (hd : (x == ("__debug__" : Str)) = false := by decide) : Ev W n f ρ (.Name x pos) (.val v) := by
  intro A r s μ I F
  exact Name_function_global F.kind hx (loadGlobal_global (F.glob ▸ I.g) (V.gin x v e) (Pv.here I D.Is.val)) hd
theorem Ev.bname {x : Str} {v : Value} {pos : Pos} (V : W.Ok) (hx : f.env.kindOf x = some .globalImplicit) (e : nsIn W.K mainGlobals x = some none) (hv : bootBuiltins x = some v) (hn : x ≠ "__name__" := by decide) (hd : (x == ("__debug__" : Str)) = false := by decide) : Ev W n f ρ (.Name x pos) (.val v) := by
  intro A r s μ I F
  exact Name_function_global F.kind hx (loadGlobal_builtin (F.glob ▸ I.g) (V.gout x e) (F.blt ▸ I.b) ((V.blt x hn).trans hv) (Pv.here I D.Is.val)) hd

/-- what stands behind the name of a callee -/
noncomputable def Kept (W : Wd) (f : Value) : Prop := ∀ h, Inv W h → ∃ k, (k = Keeper.frame ∨ k = Keeper.machine ∨ k = Keeper.boundFrame) ∧ Looks W.M h (keeperOf f) k
theorem Kept.builtin {id : String} : Kept W (.builtin id) := fun h I => ⟨.machine, .inr (.inl rfl), Looks.of_pure rfl⟩
theorem Kept.type {id : String} : Kept W (.type id) := fun h I => ⟨.machine, .inr (.inl rfl), Looks.of_pure rfl⟩
theorem Kept.ref {a : Addr} (e : keepIn W.K (.ref a) = true) : Kept W (.ref a) := fun h I => by
  obtain ⟨k, a, b⟩ := looks_keep (M := W.M) e I.K
  exact ⟨k, a.elim .inl (fun e => .inr (.inl e)), b⟩

theorem evalArgs_of {M : Model} {A : Around} {E : Value → Shared → Prop} {s : Shared} {f : Value} {Q : Args → Shared → Prop} : ∀ {args : List (Bool × Sem Value)}, args.any (·.1) = false →
    wpAny M A (spliced args) (fun vs s' => Q ⟨vs, []⟩ s') E s → wpAny M A (evalArgs f true args []) Q E s
  | [], _, h => by
    unfold evalArgs
    show wpAny M A (spliced [] >>= _) Q E s
    refine wpAny_bind (wpAny_mono h (fun vs s' h' => ?_) fun _ _ x => x)
    refine wpAny_holding ?_
    exact wpAny_bind (wpAny_pure (wpAny_bind (wpAny_pure (wpAny_pure h'))))
  | (false, x) :: rest, _, h => evalArgs_plain h
  | (true, x) :: rest, e, h => by simp at e

theorem Ev.call {fe : Expr} {args : List Expr} {pos : Pos} {fv : Value} {ds : List D} {d : D} (hf : Ev W n f ρ fe (.val fv)) (ha : EvL W n f ρ args ds) (hk : Kept W fv) (hc : Cl W n fv ds d)
    (hs : (backTo pos (starEach args f.env)).any (·.1) = false := by rfl)
    (hv : eval (.Call fe args [] pos) f.env = (do callWith pos (← eval fe f.env) [] (backTo pos (starEach args f.env)) (backToKw pos (keywordEach [] f.env))) := by rfl) : Ev W n f ρ (.Call fe args [] pos) d := by
  intro A r s μ I F
  rw [hv]
  refine wpAny_bind (hf.use r I F fun v s1 k1 I1 F1 i1 => ?_)
  obtain rfl := D.Is.val_iff.mp i1
  refine callWith_of (P := Inv W) (by rw [hs]; rfl) hk (evalArgs_of hs ?_)
  refine wpAny_mono (ha A r pos s1 μ I1 F1) (fun vs s2 p => ⟨p.2.1, ?_⟩) fun _ _ z => z
  exact wpAny_mono (hc A r s2 _ vs p.2.1 (F1.step I1 p.1).yk p.2.2) (fun v s3 q => Pv.trans (k1.trans0 p.1) q) fun _ _ z => z

-- frames of called defs
theorem bindL_other {k : Str → Option NameKind} : ∀ {binds : List (Str × Value)} {m : Str → Option Value} {x : Str}, x ∉ binds.map (·.1) → bindL k binds m x = m x
  | [], _, _, _ => rfl
  | (y, v) :: r, m, x, h => by
    have h1 : x ≠ y := fun e => h (by simp [e])
    have h2 : x ∉ r.map (·.1) := fun e => h (by simp [e])
    rw [bindL, bindL_other h2]
    split
    · simp [h1]
    · rfl
theorem bindL_has {k : Str → Option NameKind} : ∀ {binds : List (Str × Value)} {m : Str → Option Value} {x : Str} {v : Value}, (binds.map (·.1)).Nodup → (x, v) ∈ binds → k x = some .local → bindL k binds m x = some v
  | (y, u) :: r, m, x, v, hn, hm, hk => by
    rw [List.map_cons, List.nodup_cons] at hn
    rw [bindL]
    rcases List.mem_cons.mp hm with e | hm
    · cases e
      rw [bindL_other hn.1, if_pos hk]; simp
    · exact bindL_has hn.2 hm hk
theorem bindC_other {k : Str → Option NameKind} : ∀ {binds : List (Str × Value)} {m : Str → Option Value} {x : Str}, x ∉ binds.map (·.1) → bindC k binds m x = m x
  | [], _, _, _ => rfl
  | (y, v) :: r, m, x, h => by
    have h1 : x ≠ y := fun e => h (by simp [e])
    have h2 : x ∉ r.map (·.1) := fun e => h (by simp [e])
    rw [bindC, bindC_other h2]
    split
    · rfl
    · simp [h1]
theorem bindC_has {k : Str → Option NameKind} : ∀ {binds : List (Str × Value)} {m : Str → Option Value} {x : Str} {v : Value}, (binds.map (·.1)).Nodup → (x, v) ∈ binds → k x ≠ some .local → bindC k binds m x = some v
  | (y, u) :: r, m, x, v, hn, hm, hk => by
    rw [List.map_cons, List.nodup_cons] at hn
    rw [bindC]
    rcases List.mem_cons.mp hm with e | hm
    · cases e
      rw [bindC_other hn.1, if_neg hk]; simp
    · exact bindC_has hn.2 hm hk

/-- the frame of a call of fd -/
noncomputable abbrev fdOf (fd : FuncData) (a : Addr) (nm : List Str) (X : Addr → Prop) (L : Nat) : Fd := ⟨X, callEnvC fd L a, nm, L, true⟩
/-- what is known of the names: the parameters first -/
noncomputable def vals (ds : List D) (k : Nat) : List Vr := ds.map Vr.val ++ List.replicate k Vr.un
theorem vals_get {ds : List D} {k i : Nat} {d : D} (h : (vals ds k)[i]? = some (Vr.val d)) : ds[i]? = some d := by
  unfold vals at h
  rw [List.getElem?_append] at h
  split at h
  · rw [List.getElem?_map] at h
    cases e : ds[i]? with
    | none => rw [e] at h; cases h
    | some d' => rw [e] at h; cases h; rfl
  · rw [List.getElem?_replicate] at h
    split at h <;> cases h
theorem vals_box {ds : List D} {k i : Nat} {l : Bx} (h : (vals ds k)[i]? = some (Vr.box l)) : False := by
  unfold vals at h
  rw [List.getElem?_append] at h
  split at h
  · rw [List.getElem?_map] at h
    cases e : ds[i]? with
    | none => rw [e] at h; cases h
    | some d' => rw [e] at h; cases h
  · rw [List.getElem?_replicate] at h
    split at h <;> cases h

noncomputable def kindsOk (sc : Scope) (nm : List Str) : Bool := nm.all fun x => sc.names.lookup x == some .local || (sc.names.lookup x == some .cell && ((cellsFrom 0 sc.names []).lookup x).isSome)
theorem cellsFrom_any : ∀ (names : List (Str × NameKind)) (n m : Nat) (acc acc' : List (Str × Addr)) (x : Str), ((acc.lookup x).isSome = true → (acc'.lookup x).isSome = true) → ((cellsFrom n names acc).lookup x).isSome = true → ((cellsFrom m names acc').lookup x).isSome = true
  | [], _, _, _, _, _, h, e => h e
  | (y, k) :: r, n, m, acc, acc', x, h, e => by
    unfold cellsFrom at e ⊢
    split at e
    · rename_i hk
      rw [if_pos hk]
      refine cellsFrom_any r _ _ _ _ x (fun q => ?_) e
      rw [List.lookup_cons] at q ⊢
      cases hb : x == y with
      | true => rfl
      | false => rw [hb] at q; exact h q
    · rename_i hk
      rw [if_neg hk]
      exact cellsFrom_any r _ _ _ _ x h e

theorem zip_fst : ∀ (nm : List Str) (vs : List Value), vs.length ≤ nm.length → (nm.zip vs).map (·.1) = nm.take vs.length
  | [], vs, h => by cases vs <;> simp_all
  | x :: r, [], h => by simp
  | x :: r, v :: vs, h => by
    simp only [List.zip_cons_cons, List.map_cons, List.length_cons, List.take_succ_cons]
    rw [zip_fst r vs (by simpa using h)]

theorem Cl.fn {a : Addr} {fd : FuncData} {body : List Stmt} {nm : List Str} {ds : List D} {d : D} {k : Nat} (V : W.Ok)
    (ho : ∀ h, Inv W h → ∃ o, h.get? a = some o ∧ o.data = .func fd) (hcd : ∀ h, Inv W h → h.CodeRec fd.code fd.qualname)
    (hbody : fd.body = .stmts body) (hclo : fd.closure = []) (hgl : fd.globals = mainGlobals) (hbl : fd.builtins = builtinsNs)
    (hbind : ∀ vs : List Value, vs.length = ds.length → bindArgs fd ⟨vs, []⟩ = pure (nm.zip vs))
    (hnod : nm.Nodup) (hlen : ds.length ≤ nm.length) (hkinds : kindsOk fd.scope nm = true)
    (hrt : ∀ X L, Rt W n (fdOf fd a nm X L) (vals ds k) body d)
    (hco : fd.scope.isCoroutine = false := by rfl) (hgen : fd.scope.isGenerator = false := by rfl) (hkf : fd.scope.kind = .function := by rfl) : Cl W (n + 1) (.ref a) ds d := by
  intro A r s Y vs I y il
  obtain ⟨o, ho, hd⟩ := ho _ I
  have hk : ∀ x ∈ nm, ∀ q, fd.scope.names.lookup x = some .local ∨ (fd.scope.names.lookup x = some .cell ∧ ((cellsFrom q fd.scope.names []).lookup x).isSome = true) := fun x hx q => by
    have := List.all_eq_true.mp hkinds x hx
    simp only [Bool.or_eq_true, Bool.and_eq_true, beq_iff_eq] at this
    rcases this with e | ⟨e, e'⟩
    · exact .inl e
    · exact .inr ⟨e, cellsFrom_any _ 0 q [] [] x id e'⟩
  have hzip : ∀ x ∈ nm.zip vs, x.1 ∈ nm := fun x hx => (List.of_mem_zip hx).1
  have hvl := il.length
  refine wpAny_call (codeAny_call_cells r.depth ho hd I.lim (hcd _ I) hbody (hbind vs hvl) hclo (fun x hx => hk x.1 (hzip x hx) _) (fun s1 x => ?_) hco hgen hkf)
  -- the new frame
  have keep := x.toInCall.keep
  have hLs : s.heap.objs.size ≤ (callEnvC fd s.heap.objs.size a).locals := x.toInCall.fresh
  have hsz : s.heap.objs.size ≤ s1.heap.objs.size := Nat.le_of_lt (Nat.lt_of_le_of_lt hLs x.toInCall.ns.lt)
  have kq : Kq No s.heap s1.heap := .all keep hsz
  obtain ⟨h1, tk1, rfl, _⟩ := x.done
  have I1 : Inv W h1 := I.step V kq fun _ z => z.elim
  have k1 : Kp No s { s with heap := h1, toks := tk1 } := kq.kp fun _ _ z => z
  have ks : (nm.zip vs).map (·.1) = nm.take vs.length := zip_fst nm vs (by omega)
  have hnz : ((nm.zip vs).map (·.1)).Nodup := by rw [ks]; exact hnod.sublist (List.take_sublist _ _)
  let μ0 : Mu := ⟨fun b => b = s.heap.objs.size ∨ ∃ q, (callEnvC fd s.heap.objs.size a).cells.lookup q = some b, fun _ => 0⟩
  have hZ : ∀ b, μ0.Z b → s.heap.objs.size ≤ b ∧ b < h1.objs.size := fun b z => by
    rcases z with rfl | ⟨q, hq⟩
    · exact ⟨Nat.le_refl _, x.toInCall.ns.lt⟩
    · exact ⟨Nat.le_of_lt (Nat.lt_of_le_of_lt hLs (x.above q b (mem_of_lookup hq))), (x.cell q b hq).lt⟩
  have il1 : D.IsL Y h1 ds vs := il.step k1
  have mv : Mv Y (Yo (fdOf fd a nm Y s.heap.objs.size) μ0) s.heap h1 := ⟨fun b z => z.elim .inl fun z => .inr (hZ b z).1, fun b o e _ _ => keep b o e⟩
  have F0 : Fm W (fdOf fd a nm Y s.heap.objs.size) (vals ds k) μ0 h1 := by
    refine ⟨hkf, hgl, hbl, hnod, ⟨_, x.toInCall.ns⟩, .inl rfl, fun _ z hz hzk => ?_, fun _ => x.apart, fun i z d' hi hd' => ?_, fun i z l hi hl => (vals_box hl).elim, fun b z => ?_, fun b z => (hZ b z).1, I.size⟩
    · rcases hk z hz (s.heap.objs.size + 1) with e | ⟨e, e'⟩
      · have : fd.scope.names.lookup z = some .cell := hzk
        rw [e] at this; cases this
      · obtain ⟨c, hc⟩ := Option.isSome_iff_exists.mp e'
        exact ⟨c, _, hc, x.cell z c hc, .inr ⟨z, hc⟩⟩
    · have hd2 := vals_get hd'
      obtain ⟨v, hv, iv⟩ := il.get i hd2
      have hmem : (z, v) ∈ nm.zip vs := List.mem_of_getElem? (i := i) (by rw [List.getElem?_zip_eq_some]; exact ⟨hi, hv⟩)
      refine ⟨v, ?_, iv.move mv⟩
      rcases hk z (List.mem_of_getElem? hi) (s.heap.objs.size + 1) with e | ⟨e, e'⟩
      · exact .inl ⟨e, _, x.toInCall.ns, bindL_has hnz hmem e⟩
      · obtain ⟨c, hc⟩ := Option.isSome_iff_exists.mp e'
        refine .inr ⟨.inl e, c, hc, ?_⟩
        have := x.cell z c hc
        rw [bindC_has hnz hmem (by show fd.scope.names.lookup z ≠ _; rw [e]; simp)] at this
        exact this
    · rcases z with z | z
      · exact ⟨Nat.lt_of_lt_of_le (y b z).1 hsz, (y b z).2⟩
      · exact ⟨(hZ b z).2, Nat.le_trans I.size (hZ b z).1⟩
  refine wpAny_mono (hrt Y s.heap.objs.size _ (r.deeper _) _ μ0 I1 F0) (fun fl s' p => ?_) fun _ _ z => z.elim
  obtain ⟨v, rfl, kp, I', i'⟩ := p
  exact ⟨k1.trans kp (fun b z => .inr (hZ b z).1), I', i'⟩
end
end Mine
end
section -- S5
open PySem PySem.W PyProof.Rows PySem.Calls PySem.Spec
set_option Elab.async false
set_option maxRecDepth 100000
set_option linter.unusedVariables false
set_option autoImplicit false
namespace Mine

-- the heap never shrinks
theorem runs_sz {M : Model} {Γ : PySem.Ctx} {p : Pos} {t : Sem Fin} {fs : List Frame} {s s' : Shared} {e : End} (h : Runs M Γ p t fs s e s') : s.heap.objs.size ≤ s'.heap.objs.size := by
  induction h <;> (try simp only [Shared.setGen, Heap.size_push, Heap.size_after_update] at *) <;> omega
theorem wakes_sz {M : Model} {Γ : PySem.Ctx} {p : Pos} {g : Nat} {r : Resume} {s s' : Shared} {res : GenResult} (h : Wakes M Γ p g r s res s') : s.heap.objs.size ≤ s'.heap.objs.size := by
  unfold Wakes at h
  split at h
  · exact h.elim
  · split at h
    · obtain ⟨e₁, s₁, hr, _, _, rfl⟩ := h; exact (runs_sz hr : (s.setGen g .running).heap.objs.size ≤ s₁.heap.objs.size)
    · rw [h.2]; exact Nat.le_refl _
    · rw [h.2]; exact Nat.le_refl _
  · obtain ⟨e₁, s₁, hr, _, _, rfl⟩ := h; exact (runs_sz hr : (s.setGen g .running).heap.objs.size ≤ s₁.heap.objs.size)
  · rw [h.2]; exact Nat.le_refl _
  · rw [h.2]; exact Nat.le_refl _

theorem wp_sz {α : Type} (M : Model) (Γ : PySem.Ctx) (n : Nat) (t : Sem α) : ∀ (Q : α → Pos → Shared → Prop) (E : Value → Pos → Shared → Prop) (p : Pos) (s : Shared), n ≤ s.heap.objs.size → Sem.wp M Γ t Q E p s →
    Sem.wp M Γ t (fun a p' s' => n ≤ s'.heap.objs.size ∧ Q a p' s') (fun e p' s' => n ≤ s'.heap.objs.size ∧ E e p' s') p s := by
  induction t with
  | pure a => intro Q E p s hn h; exact ⟨hn, h⟩
  | raise e => intro Q E p s hn h; exact ⟨hn, h⟩
  | unsupported _ => intro Q E p s _ h; exact h
  | finish _ => intro Q E p s _ h; exact h
  | rule _ k ih => intro Q E p s hn h; exact ih () Q E p s hn h
  | «at» p' k ih => intro Q E p s hn h; exact ih () Q E p' s hn h
  | load a _ k ih => intro Q E p s hn h; obtain ⟨o, ho, h⟩ := h; exact ⟨o, ho, ih o Q E p s hn h⟩
  | update a _ f k ih => intro Q E p s hn h; exact ⟨h.1, ih () Q E p _ (by simp only [Heap.size_after_update]; exact hn) h.2⟩
  | loadIfAlive a k ih => intro Q E p s hn h; exact ih _ Q E p s hn h
  | point _ k ih => intro Q E p s hn h; exact ih () Q E p s hn h
  | register _ _ => intro Q E p s _ h; exact h
  | alloc o k ih => intro Q E p s hn h; exact ih _ Q E p _ (by simp only [Heap.size_push]; omega) h
  | fresh k ih => intro Q E p s hn h; exact ih _ Q E p _ hn h
  | ask k ih => intro Q E p s hn h; exact ih _ Q E p s hn h
  | choose src m k ih => intro Q E p s hn h; exact ⟨h.1, ih _ Q E p _ hn h.2⟩
  | os q _ k ih => intro Q E p s hn h; exact ih _ Q E p _ hn h
  | call c hd _ _ k ih => intro Q E p s hn h; obtain ⟨r, s', hr, h⟩ := h; exact ⟨r, s', hr, ih r Q E p s' (Nat.le_trans hn (runs_sz hr)) h⟩
  | handled own k ih => intro Q E p s hn h; exact ih _ Q E p s hn h
  | genState g k ih => intro Q E p s hn h; obtain ⟨st, hs, h⟩ := h; exact ⟨st, hs, ih _ Q E p s hn h⟩
  | newGen c k ih => intro Q E p s hn h; exact ih _ Q E p _ hn h
  | resume g r _ k ih => intro Q E p s hn h; obtain ⟨res, s', hw, h⟩ := h; exact ⟨res, s', hw, ih res Q E p s' (Nat.le_trans hn (wakes_sz hw)) h⟩
  | yield _ _ _ _ => intro Q E p s _ h; exact h
  | stack k ih => intro Q E p s hn h; exact ih _ Q E p s hn h
  | fork _ _ => intro Q E p s _ h; exact h
  | thread k ih => intro Q E p s hn h; exact ih _ Q E p s hn h
  | await _ _ _ _ _ => intro Q E p s _ h; exact h
theorem wpAny_sz {α : Type} {M : Model} {A : Around} {s : Shared} {t : Sem α} {Q : α → Shared → Prop} {E : Value → Shared → Prop}
    (h : wpAny M A t (fun a s' => s.heap.objs.size ≤ s'.heap.objs.size → Q a s') E s) : wpAny M A t Q E s :=
  fun Γ p hΓ => Sem.wp_mono M Γ t (fun a p' s' x => x.2 x.1) (fun e p' s' x => x.2) p s (wp_sz M Γ _ t _ _ p s (Nat.le_refl _) (h Γ p hΓ))

-- iterators
noncomputable def rng (a : Int) : Nat → List D
  | 0 => []
  | k + 1 => .int a :: rng (a + 1) k
noncomputable def nums (i : Nat) : List D → List D
  | [] => []
  | d :: r => .tup [.int i, d] :: nums (i + 1) r
/-- the iterator it holds the items ds; Zi: what it moves -/
noncomputable def ItS (Y Zi : Addr → Prop) (tp : Bool) (it : Value) (ds : List D) (h : Heap) : Prop :=
  (∃ I l i vs, it = .ref I ∧ (Zi I ∧ ∀ b, Zi b → b = I) ∧ Av Y l ∧ h.IsListIter I l i ∧ h.IsList l (List.toArray vs) ∧ D.IsL Y h ds (vs.drop i)) ∨
  (tp = false ∧ ∃ I a, ∃ k : Nat, it = .ref I ∧ (Zi I ∧ ∀ b, Zi b → b = I) ∧ IsRangeIter h I a k 1 ∧ ds = rng a k) ∨
  (tp = false ∧ ∃ I ty x t i, it = .ref I ∧ (Zi I ∧ ∀ b, Zi b → b = I) ∧ (ty = "str_ascii_iterator" ∨ ty = "str_iterator") ∧ h.IsStrIter I ty x t i ∧ ds = (x.cps.toList.drop i).map fun c => D.str ⟨#[c]⟩) ∨
  (tp = true ∧ ∃ E J l vs old es, ∃ i : Nat, it = .ref E ∧ (Zi E ∧ ∀ b, Zi b → b = E ∨ b = J) ∧ Zi J ∧ E ≠ J ∧ Av Y l ∧ IsEnum h E J i old ∧ h.IsListIter J l i ∧ h.IsList l (List.toArray vs) ∧ D.IsL Y h es (vs.drop i) ∧ ds = nums i es)

theorem ItS.move {Y Y' Zi : Addr → Prop} {h h' : Heap} {tp : Bool} {it : Value} {ds : List D} (m : Mv Y Y' h h') (hz : ∀ b o, Zi b → h.get? b = some o → h'.get? b = some o) (x : ItS Y Zi tp it ds h) : ItS Y' Zi tp it ds h' := by
  rcases x with ⟨I, l, i, vs, e, ⟨z, zf⟩, av, hi, hl, il⟩ | ⟨ht, I, a, k, e, ⟨z, zf⟩, hi, hd⟩ | ⟨ht, I, ty, x, t, i, e, ⟨z, zf⟩, hty, hi, hd⟩ | ⟨ht, E, J, l, vs, old, es, i, e, ⟨z, zf⟩, z2, ne, av, he, hi, hl, il, hd⟩
  · refine .inl ⟨I, l, i, vs, e, ⟨z, zf⟩, ?_, hi.at fun o => hz _ o z, ?_, il.move m⟩
    · obtain ⟨o, ho, _⟩ := hl; exact (m.av ho av).1
    · exact hl.at fun o ho => (m.av ho av).2
  · exact .inr (.inl ⟨ht, I, a, k, e, ⟨z, zf⟩, hz _ _ z hi, hd⟩)
  · exact .inr (.inr (.inl ⟨ht, I, ty, x, t, i, e, ⟨z, zf⟩, hty, (let ⟨o, ho, r⟩ := hi; ⟨o, hz _ _ z ho, r⟩), hd⟩))
  · refine .inr (.inr (.inr ⟨ht, E, J, l, vs, old, es, i, e, ⟨z, zf⟩, z2, ne, ?_, hz _ _ z he, hi.at fun o => hz _ o z2, ?_, il.move m, hd⟩))
    · obtain ⟨o, ho, _⟩ := hl; exact (m.av ho av).1
    · exact hl.at fun o ho => (m.av ho av).2

/-- what moves is no namespace, no cell, no list -/
theorem ItS.fields {Y Zi : Addr → Prop} {h : Heap} {tp : Bool} {it : Value} {ds : List D} (x : ItS Y Zi tp it ds h) : ∀ b, Zi b → ∃ o vs, h.get? b = some o ∧ o.data = .fields vs := by
  intro b zb
  rcases x with ⟨I, l, i, vs, e, ⟨z, zf⟩, av, hi, hl, il⟩ | ⟨ht, I, a, k, e, ⟨z, zf⟩, hi, hd⟩ | ⟨ht, I, ty, x, t, i, e, ⟨z, zf⟩, hty, hi, hd⟩ | ⟨ht, E, J, l, vs, old, es, i, e, ⟨z, zf⟩, z2, ne, av, he, hi, hl, il, hd⟩
  · rw [zf b zb]; obtain ⟨o, ho, hc, hd⟩ := hi; exact ⟨o, _, ho, hd⟩
  · rw [zf b zb]; exact ⟨_, _, hi, rfl⟩
  · rw [zf b zb]; obtain ⟨o, ho, hc, hd⟩ := hi; exact ⟨o, _, ho, hd⟩
  · rcases zf b zb with rfl | rfl
    · exact ⟨_, _, he, rfl⟩
    · obtain ⟨o, ho, hc, hd⟩ := hi; exact ⟨o, _, ho, hd⟩

theorem ItS.nosl {Y Zi : Addr → Prop} {h : Heap} {tp : Bool} {it : Value} {ds : List D} (x : ItS Y Zi tp it ds h) : ∀ b, Zi b → ∀ o, h.get? b = some o → o.cls ≠ .type "slice" := by
  intro b zb o e
  rcases x with ⟨I, l, i, vs, _, ⟨z, zf⟩, av, hi, hl, il⟩ | ⟨ht, I, a, k, _, ⟨z, zf⟩, hi, hd⟩ | ⟨ht, I, ty, x, t, i, _, ⟨z, zf⟩, hty, hi, hd⟩ | ⟨ht, E, J, l, vs, old, es, i, _, ⟨z, zf⟩, z2, ne, av, he, hi, hl, il, hd⟩
  · rw [zf b zb] at e; obtain ⟨o', ho, hc, hd⟩ := hi; rw [ho] at e; cases e; rw [hc]; decide
  · rw [zf b zb, show h.get? I = some _ from hi] at e; cases e; exact fun q => by simp at q
  · rw [zf b zb] at e; obtain ⟨o', ho, hc, hd⟩ := hi; rw [ho] at e; cases e; rw [hc]; rcases hty with rfl | rfl <;> decide
  · rcases zf b zb with q | q
    · rw [q, show h.get? E = some _ from he] at e; cases e; exact fun q => by simp at q
    · rw [q] at e; obtain ⟨o', ho, hc, hd⟩ := hi; rw [ho] at e; cases e; rw [hc]; decide

noncomputable def TgOk (tp : Bool) (target : Expr) (d : D) : Prop := (tp = false ∧ ∃ x px, target = .Name x px) ∨ (tp = true ∧ ∃ es k px l, target = .Tuple es k px ∧ d = .tup l)

section
variable {W : Wd} {Y Zi : Addr → Prop} {A : Around} {s : Shared} {tp : Bool} {it : Value} {d : D} {ds : List D} {target : Expr}

theorem Kq.ext {h h' : Heap} {a : Addr} {o : Obj} (hs : Heap.ExtBut a h h') (hz : h.objs.size ≤ h'.objs.size) (ho : h.get? a = some o) (hc : ¬ isCode o) : Kq (· = a) h h' := by
  refine ⟨fun b o' e n => hs b o' n e, fun b o' e c => ?_, hz⟩
  by_cases hb : b = a
  · subst hb; rw [ho] at e; cases e; exact absurd c hc
  · exact hs b o' hb e
theorem noCode {o : Obj} {T : String} (hc : o.cls = .type T) (h : T ≠ "code" := by decide) : ¬ isCode o := fun ⟨e, _⟩ => h (by rw [hc] at e; cases e; rfl)

theorem ItS.done (V : W.Ok) (hh : A.handled = none) (I : Inv W s.heap) (y : Yk W Y s.heap) (hzY : ∀ b, Zi b → Y b) (x : ItS Y Zi tp it [] s.heap) :
    wpAny W.M A (pyNext it) (fun r s1 => r = none ∧ Kp Zi s s1 ∧ Inv W s1.heap) Fz s := by
  have hB : ∀ b, Zi b → W.B ≤ b := fun b z => (y b (hzY b z)).2
  have fin : ∀ (tk : Nat) {h' : Heap}, Kq Zi s.heap h' → (Kp Zi s { s with heap := h', toks := tk } ∧ Inv W h') := fun tk h' kq => ⟨kq.kp (V.high hB), I.step V kq hB⟩
  refine wpAny_sz ?_
  rcases x with ⟨J, l, i, vs, rfl, ⟨z, zf⟩, av, hi, hl, il⟩ | ⟨ht, J, a, k, rfl, ⟨z, zf⟩, hi, hd⟩ | ⟨ht, J, ty, x, t, i, rfl, ⟨z, zf⟩, hty, hi, hd⟩ | ⟨ht, E, J, l, vs, old, es, i, rfl, ⟨z, zf⟩, z2, ne, av, he, hi, hl, il, hd⟩
  · have hn : vs.length ≤ i := by simpa [D.IsL] using il
    obtain ⟨o, ho, hc, _⟩ := id hi
    refine wpAny_pyNext_list_end hh hi hl (by simpa using hn) fun h' he sz => ⟨rfl, fin s.toks ((Kq.ext he sz ho (noCode hc)).weaken fun b e => .inl (e ▸ z))⟩
  · have hk : k = 0 := by cases k with | zero => rfl | succ k => simp [rng] at hd
    subst hk
    refine wpAny_pyNext_range_end hh hi (by simp) fun h' he sz => ⟨rfl, fin s.toks ((Kq.ext he sz hi (noCode rfl)).weaken fun b e => .inl (e ▸ z))⟩
  · have hn : x.cps.size ≤ i := by
      have := congrArg List.length hd
      simp at this; omega
    obtain ⟨o, ho, hc, _⟩ := id hi
    rcases hty with rfl | rfl
    · exact wpAny_pyNext_ascii_end hh hi (by simpa using hn) fun h' he sz => ⟨rfl, fin s.toks ((Kq.ext he sz ho (noCode hc)).weaken fun b e => .inl (e ▸ z))⟩
    · exact wpAny_pyNext_wide_end hh hi (by simpa using hn) fun h' he sz => ⟨rfl, fin s.toks ((Kq.ext he sz ho (noCode hc)).weaken fun b e => .inl (e ▸ z))⟩
  · have hes : es = [] := by cases es with | nil => rfl | cons a b => simp [nums] at hd
    subst hes
    have hn : vs.length ≤ i := by simpa [D.IsL] using il
    obtain ⟨o, ho, hc, _⟩ := id hi
    refine wpAny_pyNext_enum_end hh he hi hl (by simpa using hn) fun h' he' sz => ⟨rfl, fin s.toks ⟨fun b o' e n => he' b o' (fun q => n (q ▸ z2)) e, fun b o' e c => ?_, sz⟩⟩
    by_cases hb : b = J
    · subst hb; rw [ho] at e; cases e; exact absurd c (noCode hc)
    · exact he' b o' hb e

theorem ItS.self {Q : Value → Shared → Prop} (x : ItS Y Zi tp it ds s.heap) (h : Q it s) : wpAny W.M A (pyIter it) Q Fz s := by
  rcases x with ⟨J, l, i, vs, rfl, ⟨z, zf⟩, av, hi, hl, il⟩ | ⟨ht, J, a, k, rfl, ⟨z, zf⟩, hi, hd⟩ | ⟨ht, J, ty, x, t, i, rfl, ⟨z, zf⟩, hty, hi, hd⟩ | ⟨ht, E, J, l, vs, old, es, i, rfl, ⟨z, zf⟩, z2, ne, av, he, hi, hl, il, hd⟩
  · exact wpAny_pyIter_listiter hi h
  · exact wpAny_pyIter_rangeiter hi h
  · rcases hty with rfl | rfl
    · exact wpAny_pyIter_striter_ascii hi h
    · exact wpAny_pyIter_striter_wide hi h
  · exact wpAny_pyIter_enum he h

theorem ItS.next (V : W.Ok) (I : Inv W s.heap) (y : Yk W Y s.heap) (hzY : ∀ b, Zi b → Y b) (x : ItS Y Zi tp it (d :: ds) s.heap) (tg : TgOk tp target d) :
    wpAny W.M A (pyNext it) (fun r s1 => ∃ v, r = some v ∧ wpAny W.M A (letOwnedTupleGo target it v) (fun _ s2 => Kp Zi s s2 ∧ Inv W s2.heap ∧ d.Is Y s2.heap v ∧ ItS Y Zi tp it ds s2.heap) Fz s1) Fz s := by
  have hB : ∀ b, Zi b → W.B ≤ b := fun b z => (y b (hzY b z)).2
  have hZT : ∀ b, Zi b → ¬ isTab b := V.high (Z := Zi) hB |> fun q b z t => q b t z
  have fin : ∀ (tk : Nat) {h' : Heap}, Kq Zi s.heap h' → (Kp Zi s { s with heap := h', toks := tk } ∧ Inv W h') := fun tk h' kq => ⟨kq.kp (V.high hB), I.step V kq hB⟩
  have mv : ∀ {h' : Heap}, Kq Zi s.heap h' → Mv Y Y s.heap h' := fun kq => ⟨fun _ z => .inl z, fun b o e yb _ => kq.keep b o e fun z => yb (hzY b z)⟩
  have go : ∀ {v : Value} {s1 s2 : Shared} {Q : Unit → Shared → Prop}, tp = false → Q () s1 → wpAny W.M A (letOwnedTupleGo target it v) Q Fz s1 := fun ht hq => by
    rcases tg with ⟨_, x, px, rfl⟩ | ⟨h1, _⟩
    · exact wpAny_of_eq (a := ()) rfl hq
    · rw [ht] at h1; cases h1
  rcases x with ⟨J, l, i, vs, rfl, ⟨z, zf⟩, av, hi, hl, il⟩ | ⟨ht, J, a, k, rfl, ⟨z, zf⟩, hi, hd⟩ | ⟨ht, J, ty, x, t, i, rfl, ⟨z, zf⟩, hty, hi, hd⟩ | ⟨ht, E, J, l, vs, old, es, i, rfl, ⟨z, zf⟩, z2, ne, av, he, hi, hl, il, hd⟩
  · simp only [D.IsL] at il
    obtain ⟨v, r, hv, id, ir⟩ := il
    have hi' : vs[i]? = some v := by
      have := congrArg (·[0]?) hv
      simpa using this
    have hr : vs.drop (i + 1) = r := by rw [← List.tail_drop, hv]; rfl
    obtain ⟨o, ho, hc, _⟩ := (show ∃ o, s.heap.get? J = some o ∧ o.cls = .type "list_iterator" ∧ _ from hi)
    refine wpAny_pyNext_list_item hi hl (x := v) (by simpa using hi') fun h' hit hs => ⟨v, rfl, ?_⟩
    have kq : Kq Zi s.heap h' := (Kq.one hs ho (noCode hc)).weaken fun b e => .inl (e ▸ z)
    have res : Kp Zi s { s with heap := h' } ∧ Inv W h' ∧ d.Is Y h' v ∧ ItS Y Zi tp (.ref J) ds h' := by
      refine ⟨(fin s.toks kq).1, (fin s.toks kq).2, id.move (mv kq), .inl ⟨J, l, i + 1, vs, rfl, ⟨z, zf⟩, av, hit, ?_, ?_⟩⟩
      · exact hl.at fun o e => kq.keep _ o e fun q => av.1 (hzY _ q)
      · rw [hr]; exact ir.move (mv kq)
    rcases tg with ⟨_, x, px, rfl⟩ | ⟨_, es, k, px, l', rfl, rfl⟩
    · exact wpAny_of_eq (a := ()) rfl res
    · simp only [D.Is] at id
      obtain ⟨T, ws, rfl, _⟩ := id
      exact wpAny_letOwnedTupleGo_listiter hit res
  · cases k with
    | zero => simp [rng] at hd
    | succ k =>
      rw [rng] at hd
      cases hd
      refine wpAny_pyNext_range_item hi (by omega) fun h' hit hs => ⟨_, rfl, go (s2 := s) ht ?_⟩
      have kq : Kq Zi s.heap h' := (Kq.one hs hi (noCode rfl)).weaken fun b e => .inl (e ▸ z)
      refine ⟨(fin _ kq).1, (fin s.toks kq).2, D.Is.int, .inr (.inl ⟨ht, J, _, k, rfl, ⟨z, zf⟩, ?_, rfl⟩)⟩
      have : ((k + 1 : Nat) : Int) - 1 = k := by omega
      rw [this] at hit
      exact hit
  · have hlt : i < x.cps.size := by
      have := congrArg List.length hd
      simp at this; omega
    have hd' : x.cps.toList.drop i = x.cps[i] :: x.cps.toList.drop (i + 1) := by rw [List.drop_eq_getElem_cons (by simpa using hlt)]; simp
    rw [hd', List.map_cons] at hd
    cases hd
    obtain ⟨o, ho, hc, _⟩ := (show ∃ o, s.heap.get? J = some o ∧ o.cls = .type ty ∧ _ from hi)
    rcases hty with rfl | rfl
    · refine wpAny_pyNext_ascii_item hi (c := x.cps[i]) (by simp [hlt]) fun h' hit hs => ⟨_, rfl, go (s2 := s) ht ?_⟩
      have kq : Kq Zi s.heap h' := (Kq.one hs ho (noCode hc)).weaken fun b e => .inl (e ▸ z)
      exact ⟨(fin _ kq).1, (fin s.toks kq).2, D.Is.str, .inr (.inr (.inl ⟨ht, J, _, x, t, i + 1, rfl, ⟨z, zf⟩, .inl rfl, hit, rfl⟩))⟩
    · refine wpAny_pyNext_wide_item hi (c := x.cps[i]) (by simp [hlt]) fun h' hit hs => ⟨_, rfl, go (s2 := s) ht ?_⟩
      have kq : Kq Zi s.heap h' := (Kq.one hs ho (noCode hc)).weaken fun b e => .inl (e ▸ z)
      exact ⟨(fin _ kq).1, (fin s.toks kq).2, D.Is.str, .inr (.inr (.inl ⟨ht, J, _, x, t, i + 1, rfl, ⟨z, zf⟩, .inr rfl, hit, rfl⟩))⟩
  · cases es with
    | nil => simp [nums] at hd
    | cons d' es =>
      rw [nums] at hd
      cases hd
      simp only [D.IsL] at il
      obtain ⟨v, r, hv, id, ir⟩ := il
      have hi' : vs[i]? = some v := by
        have := congrArg (·[0]?) hv
        simpa using this
      have hr : vs.drop (i + 1) = r := by rw [← List.tail_drop, hv]; rfl
      obtain ⟨o, ho, hc, _⟩ := (show ∃ o, s.heap.get? J = some o ∧ o.cls = .type "list_iterator" ∧ _ from hi)
      refine wpAny_pyNext_enum_item he hi hl (x := v) (by simpa using hi') ne fun h' ho' hit hT hsz hk => ⟨_, rfl, ?_⟩
      rcases tg with ⟨h1, _⟩ | ⟨_, els, k, px, l', rfl, _⟩
      · rw [ht] at h1; cases h1
      refine wpAny_letOwnedTupleGo_enum ho' fun h2 he2 hs2 => ?_
      have Tne : s.heap.objs.size ≠ E := Nat.ne_of_gt (Heap.lt_size he)
      have kq : Kq Zi s.heap h2 := by
        refine ⟨fun b o' e n => (hs2.2 b fun q => n (q ▸ z)).trans (hk b o' (fun q => n (q ▸ z)) (fun q => n (q ▸ z2)) e), fun b o' e c => ?_, by rw [hs2.1, hsz]; omega⟩
        have hbE : b ≠ E := by rintro rfl; rw [he] at e; cases e; exact absurd c (noCode rfl)
        have hbJ : b ≠ J := by rintro rfl; rw [ho] at e; cases e; exact absurd c (noCode hc)
        exact (hs2.2 b hbE).trans (hk b o' hbE hbJ e)
      refine ⟨(fin _ kq).1, (fin s.toks kq).2, ?_, .inr (.inr (.inr ⟨ht, E, J, l, vs, v, es, i + 1, rfl, ⟨z, zf⟩, z2, ne, av, ?_, ?_, ?_, ?_, rfl⟩))⟩
      · simp only [D.Is]
        refine ⟨_, [_, v], rfl, y.av V I (Nat.le_refl _), ⟨_, (hs2.2 _ Tne).trans hT, rfl, _, rfl⟩, .cons D.Is.int (.cons (id.move (mv kq)) .nil)⟩
      · have : ((i : Int) + 1) = ((i + 1 : Nat) : Int) := by omega
        rw [← this]; exact he2
      · exact hit.at fun o e => (hs2.2 J (Ne.symm ne)).trans e
      · exact hl.at fun o e => kq.keep _ o e fun q => av.1 (hzY _ q)
      · rw [hr]; exact ir.move (mv kq)
end
end Mine
end
section -- S6
open PySem PySem.W PyProof.Rows PySem.Calls PySem.Spec
set_option Elab.async false
set_option maxRecDepth 100000
set_option linter.unusedVariables false
set_option autoImplicit false
namespace Mine

noncomputable abbrev Fd.setX (f : Fd) (X : Addr → Prop) : Fd := { f with X := X }
/-- an expression that is walked -/
noncomputable def It (W : Wd) (n : Nat) (f : Fd) (ρ : List Vr) (tp : Bool) (e : Expr) (ds : List D) : Prop :=
  ∀ A, Rm n A → ∀ s μ, Inv W s.heap → Fm W f ρ μ s.heap → wpAny W.M A (eval e f.env) (fun xv s1 => wpAny W.M A (pyIter xv) (fun it s2 =>
    ∃ Zi, Kp No s s2 ∧ Inv W s2.heap ∧ (∀ b, Zi b → s.heap.objs.size ≤ b ∧ b < s2.heap.objs.size) ∧ ItS (fun b => Yo f μ b ∨ Zi b) Zi tp it ds s2.heap) Fz s1) Fz s
/-- a store of d into a target -/
noncomputable def Asn (W : Wd) (n : Nat) (f : Fd) (ρ : List Vr) (target : Expr) (d : D) (ρ' : List Vr) : Prop :=
  ∀ A, Rm n A → ∀ s μ v, Inv W s.heap → Fm W f ρ μ s.heap → d.Is (Yo f μ) s.heap v → wpAny W.M A (assign target f.env v) (fun _ s' => Kp (Zs f μ) s s' ∧ Inv W s'.heap ∧ Fm W f ρ' μ s'.heap) Fz s

section
variable {W : Wd} {f : Fd} {ρ ρ' : List Vr} {μ : Mu} {n : Nat}

/-- the general move of a frame -/
theorem Fm.move {s s' : Shared} {X : Addr → Prop} (F : Fm W f ρ μ s.heap) (m : Mv (Yo f μ) (Yo (f.setX X) μ) s.heap s'.heap)
    (kn : ∀ a o, s.heap.get? a = some o → (∀ vs, o.data ≠ .fields vs) → (∀ xs k, o.data = .seq xs k → μ.Z a) → ¬ isTab a → s'.heap.get? a = some o) (I : Inv W s.heap)
    (hlt : ∀ b, X b → b < s'.heap.objs.size ∧ W.B ≤ b) (hsz : s.heap.objs.size ≤ s'.heap.objs.size) : Fm W (f.setX X) ρ μ s'.heap := by
  have kns : ∀ {a m}, s.heap.Ns a m → s'.heap.Ns a m := fun {a m} hm => by
    have nt := ns_notab I hm
    obtain ⟨o, es, ep, ho, hd, r⟩ := hm
    exact ⟨o, es, ep, kn _ _ ho (by rw [hd]; simp) (by rw [hd]; simp) nt, hd, r⟩
  have kcell : ∀ {a v}, s.heap.IsCell a v → s'.heap.IsCell a v := fun {a v} hc => by
    have nt := cell_notab I hc
    obtain ⟨o, ho, hd⟩ := hc
    exact ⟨o, kn _ _ ho (by rw [hd]; simp) (by rw [hd]; simp) nt, hd⟩
  have has : ∀ {x v}, Has f.env s.heap x v → Has f.env s'.heap x v := fun {x v} H => by
    rcases H with ⟨a, m, hm, e⟩ | ⟨a, c, l, hc⟩
    · exact .inl ⟨a, m, kns hm, e⟩
    · exact .inr ⟨a, c, l, kcell hc⟩
  refine ⟨F.kind, F.glob, F.blt, F.nod, ?_, F.nsZ, fun st x hx hk => ?_, F.ap, fun i x d hi hd => ?_, fun i x l hi hd => ?_, fun a y => ?_, F.low, F.base⟩
  · obtain ⟨m, hm⟩ := F.ns; exact ⟨m, kns hm⟩
  · obtain ⟨c, v, l, hc, z⟩ := F.cel st x hx hk
    exact ⟨c, v, l, kcell hc, z⟩
  · obtain ⟨v, H, id⟩ := F.val i x d hi hd
    exact ⟨v, has H, id.move m⟩
  · obtain ⟨v, L, H, b, hL⟩ := F.box i x l hi hd
    exact ⟨v, L, has H, b, hL.keep fun a o z e c d => kn _ _ e (by obtain ⟨_, _, d⟩ := d; rw [d]; simp) (fun _ _ _ => z) (cls_notab I e (by rw [c]; simp))⟩
  · rcases y with y | y
    · exact hlt a y
    · exact ⟨Nat.lt_of_lt_of_le (F.lt a (.inr y)).1 hsz, (F.lt a (.inr y)).2⟩

theorem Fm.setX {s s' : Shared} {X : Addr → Prop} (F : Fm W f ρ μ s.heap) (I : Inv W s.heap) (k : Kp No s s') (hX : ∀ b, X b → f.X b ∨ s.heap.objs.size ≤ b) (hlt : ∀ b, X b → b < s'.heap.objs.size ∧ W.B ≤ b) : Fm W (f.setX X) ρ μ s'.heap :=
  F.move ⟨fun b y => y.elim (fun y => (hX b y).imp_left .inl) fun y => .inl (.inr y), fun b o e _ t => k.keep b o e (fun z => z) t⟩ (fun a o e _ _ t => k.keep a o e (fun z => z) t) I hlt k.size
theorem Fm.dropX {h : Heap} {X : Addr → Prop} (F : Fm W f ρ μ h) (hX : ∀ b, X b → f.X b) : Fm W (f.setX X) ρ μ h := by
  have sub : ∀ b, Yo (f.setX X) μ b → Yo f μ b := fun b y => y.imp_left (hX b)
  have mv : Mv (Yo f μ) (Yo (f.setX X) μ) h h := ⟨fun b z => .inl (sub b z), fun b o e _ _ => e⟩
  refine ⟨F.kind, F.glob, F.blt, F.nod, F.ns, F.nsZ, F.cel, F.ap, fun i x d hi hd => ?_, fun i x l hi hd => ?_, fun a y => F.lt a (sub a y), F.low, F.base⟩
  · obtain ⟨v, H, id⟩ := F.val i x d hi hd
    exact ⟨v, H, id.move mv⟩
  · exact F.box i x l hi hd
/-- iterators move beside the frame -/
theorem Fm.stepZ {s s' : Shared} {Zi : Addr → Prop} (F : Fm W f ρ μ s.heap) (I : Inv W s.heap) (k : Kp Zi s s') (hX : ∀ b, Zi b → f.X b) (hf : ∀ b, Zi b → ∃ o vs, s.heap.get? b = some o ∧ o.data = .fields vs) : Fm W f ρ μ s'.heap := by
  refine F.move (X := f.X) ⟨fun b y => .inl y, fun b o e y t => k.keep b o e (fun z => y (.inl (hX b z))) t⟩ (fun a o e nf _ t => k.keep a o e (fun z => ?_) t) I (fun b y => ⟨Nat.lt_of_lt_of_le (F.lt b (.inl y)).1 k.size, (F.lt b (.inl y)).2⟩) k.size
  obtain ⟨o', vs, e', hd⟩ := hf a z
  rw [e] at e'; cases e'
  exact nf vs hd
theorem Fm.forget {h : Heap} (F : Fm W f ρ μ h) (hv : ∀ (i : Nat) (d : D), ρ'[i]? = some (Vr.val d) → ρ[i]? = some (Vr.val d)) (hb : ∀ (i : Nat) (l : Bx), ρ'[i]? = some (Vr.box l) → ρ[i]? = some (Vr.box l)) : Fm W f ρ' μ h :=
  ⟨F.kind, F.glob, F.blt, F.nod, F.ns, F.nsZ, F.cel, F.ap, fun i x d hi hd => F.val i x d hi (hv i d hd), fun i x l hi hd => F.box i x l hi (hb i l hd), F.lt, F.low, F.base⟩

theorem Asn.name {x : Str} {px : Pos} {d : D} (V : W.Ok) (i : Nat) (hx : f.nm[i]? = some x) (hk : f.env.kindOf x = some .local ∨ f.env.kindOf x = some .cell ∧ f.st = true) : Asn W n f ρ (.Name x px) d (ρ.set i (.val d)) := by
  intro A r s μ v I F id
  exact wpAny_assign_Name (sto0 V I F hx hk id fun s' k I' F' => ⟨k, I', F'⟩)
theorem Kp.transZ {Z : Addr → Prop} {s s' s'' : Shared} (h : Kp Z s s') (h' : Kp Z s' s'') : Kp Z s s'' := h.trans h' fun _ z => .inl z
/-- stores in order -/
theorem ass_nil {A : Around} {s : Shared} {Q : Unit → Shared → Prop} (h : Q () s) : wpAny W.M A (assignInOrder [] []) Q Fz s := wpAny_of_eq (a := ()) rfl h
/-- the targets of a tuple, each with its place -/
inductive AsnL (W : Wd) (n : Nat) (f : Fd) : List Vr → List Expr → List D → List Vr → Prop
  | nil {ρ : List Vr} : AsnL W n f ρ [] [] ρ
  | cons {ρ ρ1 ρ2 : List Vr} {t : Expr} {ts : List Expr} {d : D} {ds : List D} (h : Asn W n f ρ t d ρ1) (hs : assignEach (t :: ts) f.env = (false, assign t f.env) :: assignEach ts f.env) (hr : AsnL W n f ρ1 ts ds ρ2) : AsnL W n f ρ (t :: ts) (d :: ds) ρ2
theorem AsnL.len {ts : List Expr} {ds : List D} (h : AsnL W n f ρ ts ds ρ') : (assignEach ts f.env).length = ds.length := by
  induction h with
  | nil => rfl
  | cons h hs hr ih => rw [hs]; simp [ih]
theorem AsnL.star {ts : List Expr} {ds : List D} (h : AsnL W n f ρ ts ds ρ') : (assignEach ts f.env).findIdx? (·.1) = none := by
  induction h with
  | nil => rfl
  | cons h hs hr ih => rw [hs, List.findIdx?_cons]; simp [ih]
theorem AsnL.run {ts : List Expr} {ds : List D} (h : AsnL W n f ρ ts ds ρ') : ∀ {A : Around}, Rm n A → ∀ {s : Shared} {μ : Mu} {vs : List Value}, Inv W s.heap → Fm W f ρ μ s.heap → D.IsL (Yo f μ) s.heap ds vs →
    wpAny W.M A (assignInOrder ((assignEach ts f.env).map (·.2)) vs) (fun _ s' => Kp (Zs f μ) s s' ∧ Inv W s'.heap ∧ Fm W f ρ' μ s'.heap) Fz s := by
  induction h with
  | nil =>
    intro A r s μ vs I F il
    simp only [D.IsL] at il; subst il
    exact ass_nil ⟨Kp.refl _ _, I, F⟩
  | cons h hs hr ih =>
    intro A r s μ vs I F il
    simp only [D.IsL] at il
    obtain ⟨v, rest, rfl, iv, ir⟩ := il
    rw [hs]
    simp only [List.map_cons]
    unfold assignInOrder
    refine wpAny_bind (wpAny_holding (wpAny_mono (h A r s μ v I F iv) (fun _ s1 p => ?_) fun _ _ z => z))
    · obtain ⟨k1, I1, F1⟩ := p
      refine wpAny_mono (ih r I1 F1 (ir.move ⟨fun _ z => .inl z, fun b o e y t => k1.keep b o e (fun z => y (.inr z.1)) t⟩)) (fun _ s2 p => ⟨k1.transZ p.1, p.2⟩) fun _ _ z => z
theorem Asn.tuple {ts : List Expr} {k} {px : Pos} {ds : List D} (V : W.Ok) (h : AsnL W n f ρ ts ds ρ') : Asn W n f ρ (.Tuple ts k px) (.tup ds) ρ' := by
  intro A r s μ v I F id
  simp only [D.Is] at id
  obtain ⟨a, vs, rfl, av, ht, il⟩ := id
  have hl := h.len
  have hn : (assignEach ts f.env).length = vs.toArray.size := by rw [hl, ← il.length]; simp
  rw [arm_assign_Tuple]
  refine wpAny_bind (wpAny_standAt ?_)
  unfold unpack
  rw [hn, h.star]
  refine wpAny_bind (wpAny_holding (wpAny_sz (wpAny_unpackItems_tuple r.hd ht fun h' he sz => ?_)))
  have kq : Kq No s.heap h' := .all (fun b o e => he b o (Nat.ne_of_lt (Heap.lt_size e)) e) sz
  have k1 : Kp No s { s with heap := h' } := kq.kp (tk := s.toks) fun _ _ z => z
  refine wpAny_mono (h.run r (s := { s with heap := h' }) (I.step V kq fun _ z => z.elim) (F.step I k1) (il.step k1)) (fun _ s2 p => ⟨k1.up.transZ p.1, p.2⟩) fun _ _ z => z
end
end Mine
end
section -- S7
open PySem PySem.W PyProof.Rows PySem.Calls PySem.Spec
set_option Elab.async false
set_option maxRecDepth 100000
set_option linter.unusedVariables false
set_option autoImplicit false
namespace Mine
section
variable {W : Wd} {f : Fd} {ρ ρ' : List Vr} {μ : Mu} {n : Nat}

theorem evCall {fe : Expr} {args : List Expr} {pos : Pos} {fv : Value} {ds : List D} {A : Around} {s : Shared} {Q : Value → Shared → Prop} (hf : Ev W n f ρ fe (.val fv)) (ha : EvL W n f ρ args ds) (hk : Kept W fv)
    (r : Rm n A) (I : Inv W s.heap) (F : Fm W f ρ μ s.heap)
    (hc : ∀ s2 vs, Kp No s s2 → Inv W s2.heap → Fm W f ρ μ s2.heap → D.IsL (Yo f μ) s2.heap ds vs → wpAny W.M A (call fv vs) Q Fz s2)
    (hs : (backTo pos (starEach args f.env)).any (·.1) = false := by rfl)
    (hv : eval (.Call fe args [] pos) f.env = (do callWith pos (← eval fe f.env) [] (backTo pos (starEach args f.env)) (backToKw pos (keywordEach [] f.env))) := by rfl) : wpAny W.M A (eval (.Call fe args [] pos) f.env) Q Fz s := by
  rw [hv]
  refine wpAny_bind (hf.use r I F fun v s1 k1 I1 F1 i1 => ?_)
  obtain rfl := D.Is.val_iff.mp i1
  refine callWith_of (P := Inv W) (by rw [hs]; rfl) hk (evalArgs_of hs ?_)
  exact wpAny_mono (ha A r pos s1 μ I1 F1) (fun vs s2 p => ⟨p.2.1, hc s2 vs (k1.trans0 p.1) p.2.1 (F1.step I1 p.1) p.2.2⟩) fun _ _ z => z

-- what is walked
theorem It.lst {tp : Bool} {e : Expr} {ds : List D} (V : W.Ok) (h : Ev W n f ρ e (.lst ds)) : It W n f ρ tp e ds := by
  intro A r s μ I F
  refine h.use r I F fun v s1 k1 I1 F1 i1 => ?_
  simp only [D.Is] at i1
  obtain ⟨a, vs, rfl, av, hl, il⟩ := i1
  refine wpAny_pyIter_list hl ?_
  have hlt : a < s1.heap.objs.size := by obtain ⟨o, ho, _⟩ := hl; exact Heap.lt_size ho
  refine ⟨(· = s1.heap.objs.size), k1.trans0 (Kp.push _), I1.push V _, fun b e => by subst e; exact ⟨k1.size, by rw [Heap.size_push]; omega⟩, .inl ⟨_, a, 0, vs, rfl, ⟨rfl, fun _ e => e⟩, ⟨fun y => ?_, av.2⟩, ⟨_, Heap.get?_push_size _ rfl, rfl, rfl⟩, hl.push _, ?_⟩⟩
  · rcases y with y | y
    · exact av.1 y
    · exact absurd y (Nat.ne_of_lt hlt)
  · rw [List.drop_zero]
    refine il.move ⟨fun b y => y.imp_right fun e => ?_, fun b o e _ _ => Heap.get?_push_of_some _ e⟩
    exact Nat.le_of_eq e.symm
theorem It.str {e : Expr} {x : Str} (V : W.Ok) (h : Ev W n f ρ e (.str x)) : It W n f ρ false e (x.cps.toList.map fun c => D.str ⟨#[c]⟩) := by
  intro A r s μ I F
  refine h.use r I F fun v s1 k1 I1 F1 i1 => ?_
  obtain ⟨t, rfl⟩ := D.Is.str_iff.mp i1
  cases ha : x.cps.all (· < 128)
  · refine wpAny_pyIter_wide ha ?_
    exact ⟨(· = s1.heap.objs.size), k1.trans0 (Kp.push _), I1.push V _, fun b e => by subst e; exact ⟨k1.size, by rw [Heap.size_push]; omega⟩, .inr (.inr (.inl ⟨rfl, _, _, x, t, 0, rfl, ⟨rfl, fun _ e => e⟩, .inr rfl, ⟨_, Heap.get?_push_size _ rfl, rfl, rfl⟩, by rw [List.drop_zero]⟩))⟩
  · refine wpAny_pyIter_ascii ha ?_
    exact ⟨(· = s1.heap.objs.size), k1.trans0 (Kp.push _), I1.push V _, fun b e => by subst e; exact ⟨k1.size, by rw [Heap.size_push]; omega⟩, .inr (.inr (.inl ⟨rfl, _, _, x, t, 0, rfl, ⟨rfl, fun _ e => e⟩, .inl rfl, ⟨_, Heap.get?_push_size _ rfl, rfl, rfl⟩, by rw [List.drop_zero]⟩))⟩
theorem It.range {fe e : Expr} {pos : Pos} {k : Nat} (V : W.Ok) (hf : Ev W n f ρ fe (.val (.type "range"))) (h : Ev W n f ρ e (.int k)) (hk : Builtin.Range.small 0 k 1 = true := by decide +kernel)
    (he : starEach [e] f.env = (false, eval e f.env) :: starEach [] f.env := by rfl)
    (hs : (backTo pos (starEach [e] f.env)).any (·.1) = false := by rfl)
    (hv : eval (.Call fe [e] [] pos) f.env = (do callWith pos (← eval fe f.env) [] (backTo pos (starEach [e] f.env)) (backToKw pos (keywordEach [] f.env))) := by rfl) : It W n f ρ false (.Call fe [e] [] pos) (rng 0 k) := by
  intro A r s μ I F
  refine evCall hf (EvL.cons h EvL.nil he) Kept.type r I F (fun s2 vs k2 I2 F2 il => ?_) hs hv
  simp only [D.IsL, D.Is] at il
  obtain ⟨v, r', rfl, ⟨t, rfl⟩, rfl⟩ := il
  refine call_range_1 ?_
  have kp := Kp.push (s := s2) { cls := .type "range", data := .fields #[.int 0 s2.toks, .int k t, .int 1 (s2.toks + 1)] }
  refine wpAny_pyIter_range (IsRange.new s2.heap 0 k 1 s2.toks t (s2.toks + 1)) hk ?_
  have hz : Builtin.Range.rangeSize 0 k 1 = k := by rw [rangeSize_one]; split <;> omega
  rw [hz]
  dsimp only
  have K2 : Kp No s { s2 with heap := ((s2.heap.push { cls := .type "range", data := .fields #[.int 0 s2.toks, .int k t, .int 1 (s2.toks + 1)] }).push { cls := .type "range_iterator", data := .fields #[rawInt 0, rawInt k, rawInt 1] }), toks := s2.toks + 1 + 1 } :=
    k2.trans0 (Kq.kp (s := s2) (((Kq.push _ _).trans (Kq.push _ _)) fun _ z => .inl z) fun _ _ z => z)
  refine ⟨(· = (s2.heap.push { cls := .type "range", data := .fields #[.int 0 s2.toks, .int k t, .int 1 (s2.toks + 1)] }).objs.size), K2, (I2.push V _).push V _, fun b e => ?_, .inr (.inl ⟨rfl, _, 0, k, rfl, ⟨rfl, fun _ e => e⟩, Heap.get?_push_size _ rfl, rfl⟩)⟩
  have e' : (b : Nat) = _ := e
  rw [e']
  have := k2.size
  simp only [Heap.size_push]
  exact ⟨by omega, by omega⟩
theorem It.enum {fe e : Expr} {pos : Pos} {ds : List D} (V : W.Ok) (hf : Ev W n f ρ fe (.val (.type "enumerate"))) (h : Ev W n f ρ e (.lst ds))
    (he : starEach [e] f.env = (false, eval e f.env) :: starEach [] f.env := by rfl)
    (hs : (backTo pos (starEach [e] f.env)).any (·.1) = false := by rfl)
    (hv : eval (.Call fe [e] [] pos) f.env = (do callWith pos (← eval fe f.env) [] (backTo pos (starEach [e] f.env)) (backToKw pos (keywordEach [] f.env))) := by rfl) : It W n f ρ true (.Call fe [e] [] pos) (nums 0 ds) := by
  intro A r s μ I F
  refine evCall hf (EvL.cons h EvL.nil he) Kept.type r I F (fun s2 vs k2 I2 F2 il => ?_) hs hv
  simp only [D.IsL, D.Is] at il
  obtain ⟨v, r', rfl, ⟨a, ws, rfl, av, hl, iw⟩, rfl⟩ := il
  have hlt : a < s2.heap.objs.size := by obtain ⟨o, ho, _⟩ := hl; exact Heap.lt_size ho
  refine call_enumerate_list hl fun h' he hi hsz hk => wpAny_pyIter_enum he ?_
  have kq : Kq No s2.heap h' := .all hk (by rw [hsz]; omega)
  refine ⟨(fun b => b = s2.heap.objs.size + 1 ∨ b = s2.heap.objs.size), k2.trans0 (kq.kp (tk := s2.toks) fun _ _ z => z), I2.step V kq fun _ z => z.elim, fun b e => ?_, .inr (.inr (.inr ⟨rfl, _, s2.heap.objs.size, a, ws, .none, ds, 0, rfl, ⟨.inl rfl, fun _ e => e⟩, .inr rfl, Nat.ne_of_gt (Nat.lt_succ_self _), ⟨fun y => ?_, av.2⟩, he, hi, hl.at fun o => hk _ o, ?_, rfl⟩))⟩
  · have := k2.size
    dsimp only
    rcases e with rfl | rfl <;> omega
  · rcases y with y | y | y
    · exact av.1 y
    · exact absurd hlt (Nat.not_lt.mpr (Nat.le_trans (Nat.le_succ _) (Nat.le_of_eq y.symm)))
    · exact absurd hlt (Nat.not_lt.mpr (Nat.le_of_eq y.symm))
  · rw [List.drop_zero]
    exact iw.move ⟨fun b y => y.imp_right fun e => by rcases e with rfl | rfl <;> omega, fun b o e _ _ => hk b o e⟩

theorem Kp.weaken' {Z Z' : Addr → Prop} {s s' : Shared} (h : Kp Z s s') (hz : ∀ b, Z b → Z' b) : Kp Z' s s' := h.weaken fun b z => .inl (hz b z)

/-- for target in iter: body, each turn leading on -/
theorem Ex.forIn {target iter : Expr} {body : List Stmt} {pos : Pos} {ds : List D} (tp : Bool) (V : W.Ok) (ρs : Nat → List Vr)
    (hi : It W n f (ρs 0) tp iter ds) (ht : ∀ d ∈ ds, TgOk tp target d)
    (hb : ∀ i d, ds[i]? = some d → ∀ X, ∃ ρt, Asn W n (f.setX X) (ρs i) target d ρt ∧ Exs W n (f.setX X) ρt body (ρs (i + 1)))
    (hs : ∀ x, foldedSetIterable iter f.env x = pure x := by intro _; rfl) : Ex W n f (ρs 0) (.For target iter body [] pos) (ρs ds.length) := by
  intro A r s μ I F
  refine wpAny_For (wpAny_mono (hi A r s μ I F) (fun xv s1 h1 => wpAny_mono h1 (fun it s2 h2 => ?_) fun _ _ z => z) fun _ _ z => z) hs
  obtain ⟨Zi, k2, I2, hZi, its⟩ := h2
  let X : Addr → Prop := fun b => f.X b ∨ Zi b
  have F2 : Fm W (f.setX X) (ρs 0) μ s2.heap := F.setX I k2 (fun b y => y.imp_right fun z => (hZi b z).1) fun b y => by
    rcases y with y | y
    · exact ⟨Nat.lt_of_lt_of_le (F.lt b (.inl y)).1 k2.size, (F.lt b (.inl y)).2⟩
    · exact ⟨(hZi b y).2, Nat.le_trans I.size (hZi b y).1⟩
  have its2 : ItS (Yo (f.setX X) μ) Zi tp it ds s2.heap := its.move ⟨fun b y => .inl (by rcases y with (y | y) | y; exact .inl (.inl y); exact .inr y; exact .inl (.inr y)), fun b o e _ _ => e⟩ fun b o _ e => e
  refine codeAny_forLoop_any (fun k s' => ∃ i μ', k = ds.length - i ∧ i ≤ ds.length ∧ Inv W s'.heap ∧ Fm W (f.setX X) (ρs i) μ' s'.heap ∧ ItS (Yo (f.setX X) μ') Zi tp it (ds.drop i) s'.heap ∧ Kp (fun b => μ.Z b ∨ Zi b) s s' ∧ (∀ a, μ'.Z a → μ.Z a ∨ s.heap.objs.size ≤ a) ∧ (∀ b, Zi b → ¬ μ'.Z b))
    ?_ ds.length ⟨0, μ, by simp, by simp, I2, F2, by simpa using its2, k2.up, fun _ z => .inl z, fun b z z' => absurd (F.lt b (.inr z')).1 (Nat.not_lt.mpr (hZi b z).1)⟩
  rintro k s' ⟨i, μ', rfl, hle, I', F', its', k', gr, dis⟩
  have hZX : ∀ b, Zi b → Yo (f.setX X) μ' b := fun b z => .inl (.inr z)
  have hZsz : ∀ b, Zi b → b < s2.heap.objs.size := fun b z => (hZi b z).2
  cases hd : ds.drop i with
  | nil =>
    have hi' : i = ds.length := by
      have := congrArg List.length hd
      simp at this; omega
    rw [hd] at its'
    refine wpAny_mono (ItS.done V r.hd I' F'.yk hZX its') (fun rr s3 p => ?_) fun _ _ z => z.elim
    obtain ⟨rfl, k3, I3⟩ := p
    refine wpAny_execs_nil ⟨rfl, μ', ?_, I3, ?_, gr⟩
    · have : Kp (fun b => μ.Z b ∨ Zi b) s s3 := k'.trans k3 fun b z => .inl (.inr z)
      exact this.weaken fun b z => z.imp_right fun z => (hZi b z).1
    · rw [← hi']
      exact (F'.stepZ I' k3 (fun b z => .inr z) its'.fields).dropX (f := f.setX X) (X := f.X) fun b y => .inl y
  | cons d rest =>
    have hil : i < ds.length := by
      have := congrArg List.length hd
      simp at this; omega
    have hdi : ds[i]? = some d := by
      have := congrArg (·[0]?) hd
      simpa using this
    have hrest : ds.drop (i + 1) = rest := by rw [← List.tail_drop, hd]; rfl
    rw [hd] at its'
    obtain ⟨ρt, ha, hx⟩ := hb i d hdi X
    refine wpAny_mono (ItS.next V I' F'.yk hZX its' (ht d (List.mem_of_getElem? hdi))) (fun rr s3 p => ?_) fun _ _ z => z.elim
    obtain ⟨v, rfl, p⟩ := p
    refine wpAny_mono p (fun _ s4 p => ?_) fun _ _ z => z.elim
    obtain ⟨k4, I4, iv, it4⟩ := p
    have F4 := F'.stepZ I' k4 (fun b z => .inr z) its'.fields
    refine wpAny_mono (ha A r s4 μ' v I4 F4 iv) (fun _ s5 p => ?_) fun _ _ z => z.elim
    obtain ⟨k5, I5, F5⟩ := p
    have it5 : ItS (Yo (f.setX X) μ') Zi tp it rest s5.heap := it4.move ⟨fun _ z => .inl z, fun b o e y t => k5.keep b o e (fun z => y (.inr z.1)) t⟩ fun b o z e => k5.keep b o e (fun q => dis b z q.1) (F5.notab V (hZX b z))
    refine wpAny_mono (hx A r s5 μ' I5 F5) (fun fl s6 p => ?_) fun _ _ z => z.elim
    obtain ⟨rfl, μ6, a6⟩ := p
    have k4' : Kp (fun b => μ'.Z b ∨ Zi b) s' s4 := k4.weaken' fun b z => .inr z
    have k45 : Kp (fun b => μ'.Z b ∨ Zi b) s' s5 := k4'.trans k5 fun b z => .inl (.inl z.1)
    have k46 : Kp (fun b => μ'.Z b ∨ Zi b) s' s6 := k45.trans a6.kp fun b z => .inl (.inl z)
    refine ⟨ds.length - (i + 1), by omega, i + 1, μ6, rfl, hil, a6.inv, a6.fm, ?_, k'.trans k46 fun b z => ?_, fun a z => ?_, fun b z z6 => ?_⟩
    · rw [hrest]
      exact it5.move ⟨fun b y => by
        rcases y with y | y
        · exact .inl (.inl y)
        · exact (a6.grow b y).imp_left .inr, fun b o e y t => a6.kp.keep b o e (fun z => y (.inr z)) t⟩ fun b o z e => a6.kp.keep b o e (fun q => dis b z q) (F5.notab V (hZX b z))
    · rcases z with z | z
      · exact (gr b z).imp_left .inl
      · exact .inl (.inr z)
    · rcases a6.grow a z with z | z
      · exact gr a z
      · exact .inr (Nat.le_trans (Nat.le_trans k'.size (Nat.le_trans k4.size k5.size)) z)
    · rcases a6.grow b z6 with q | q
      · exact dis b z q
      · exact absurd ((F5.lt b (hZX b z)).1) (Nat.not_lt.mpr q)
end
end Mine
end
section -- S8
open PySem PySem.W PyProof.Rows PySem.Calls PySem.Spec
set_option Elab.async false
set_option maxRecDepth 100000
set_option linter.unusedVariables false
set_option autoImplicit false
namespace Mine

noncomputable abbrev tests (ifs : List Expr) (env : Env) : Sem Bool := forIn ifs true fun c r => if r = true then do let ok ← isTrue c env (eval c env); pure (ForInStep.yield ok) else pure (ForInStep.yield r)
noncomputable def Tss (W : Wd) (n : Nat) (f : Fd) (ρ : List Vr) (ifs : List Expr) (b : Bool) : Prop :=
  ∀ A, Rm n A → ∀ s μ, Inv W s.heap → Fm W f ρ μ s.heap → wpAny W.M A (tests ifs f.env) (fun c s' => c = b ∧ Kp No s s' ∧ Inv W s'.heap) Fz s

/-- the loop of a list comprehension, with tuple targets -/
theorem compLoop_my {prog : Program} {w : World} {A : Around} {R : Result → Shared → Prop} {s : Shared} {elt target iter : Expr} {ifs : List Expr} {scope : Scope} {pos : Pos} {it acc : Value} {env : Env} (I : Nat → Shared → Prop)
    (turn : ∀ n s, I n s → wpAny (model prog w) A (pyNext it) (fun r s₁ => match r with
      | none => R (.ok .next) s₁
      | some v => wpAny (model prog w) A (letOwnedTupleGo target it v) (fun _ s₁' => wpAny (model prog w) A (assign target env v) (fun _ s₂ =>
          wpAny (model prog w) A (tests ifs env) (fun ok s₃ =>
            if ok = true then wpAny (model prog w) A (eval elt env) (fun x s₄ =>
              wpAny (model prog w) A (call (.builtin "list.append") [acc, x]) (fun _ s₅ => ∃ m, m < n ∧ I m s₅) Fz s₄) Fz s₃
            else ∃ m, m < n ∧ I m s₃) Fz s₂) Fz s₁') Fz s₁) Fz s)
    (n : Nat) (h : I n s) :
    codeAny (model prog w) A (.compLoop (.ListComp elt [⟨target, iter, ifs, 0⟩] scope pos) 0 it acc env) R s := by
  refine codeAny_loop rfl I (fun n s hI => ?_) n h
  show wpAny _ A ((compTurn (.ListComp elt [⟨target, iter, ifs, 0⟩] scope pos) 0 it acc env).onRaise (fun x => do noteFrame x env; theTreesLotGoes x)) _ _ s
  refine wpAny_noted ?_
  rw [compTurn_list]
  refine wpAny_bind (wpAny_standAt (wpAny_bind (wpAny_mono (turn n s hI) (fun r s₁ h₁ => ?_) fun _ _ h' => h'.elim)))
  cases r with
  | none => exact wpAny_pure h₁
  | some v =>
    refine wpAny_bind (wpAny_mono h₁ (fun _ s1' h₁ => ?_) fun _ _ h' => h'.elim)
    refine wpAny_bind (wpAny_mono h₁ (fun _ s₂ h₂ => wpAny_bind (wpAny_mono h₂ (fun ok s₃ h₃ => ?_) fun _ _ h' => h'.elim)) fun _ _ h' => h'.elim)
    cases ok with
    | false => exact wpAny_pure ⟨rfl, h₃⟩
    | true =>
      exact wpAny_bind (wpAny_bind (wpAny_mono h₃ (fun x s₄ h₄ => wpAny_bind (wpAny_mono h₄ (fun _ s₅ h₅ => wpAny_pure (wpAny_pure ⟨rfl, h₅⟩)) fun _ _ h' => h'.elim)) fun _ _ h' => h'.elim))

noncomputable abbrev fdC (f : Fd) (scope : Scope) (cl : List (Str × Addr)) (nm : List Str) (X : Addr → Prop) (C : Addr) (L : Nat) : Fd := ⟨X, compEnvC scope cl C f.env, nm, L, false⟩
/-- the names seen from within -/
noncomputable def CapsOk (f : Fd) (ρ : List Vr) (kin : Str → Option NameKind) (cl : List (Str × Addr)) : List (Str × Nat × D) → Prop
  | [] => True
  | q :: r => (f.nm[q.2.1]? = some q.1 ∧ ρ[q.2.1]? = some (Vr.val q.2.2) ∧ (f.env.kindOf q.1 = some .cell ∨ f.env.kindOf q.1 = some .free) ∧ (kin q.1 = some .cell ∨ kin q.1 = some .free) ∧ cl.lookup q.1 = f.env.cells.lookup q.1) ∧ CapsOk f ρ kin cl r
noncomputable abbrev cn (caps : List (Str × Nat × D)) : List Str := caps.map (·.1)
noncomputable abbrev cv (caps : List (Str × Nat × D)) : List Vr := caps.map fun q => Vr.val q.2.2

section
variable {W : Wd} {f : Fd} {ρ ρ' : List Vr} {μ : Mu} {n : Nat}
theorem Tss.nil : Tss W n f ρ [] true := fun A r s μ I F => wpAny_tests_nil ⟨rfl, Kp.refl _ _, I⟩
theorem Tss.one {c : Expr} {b : Bool} (h : Ts W n f ρ c b) : Tss W n f ρ [c] b := fun A r s μ I F => wpAny_tests_one (h A r s μ I F)

theorem CapsOk.mem {kin : Str → Option NameKind} {cl : List (Str × Addr)} : ∀ {caps : List (Str × Nat × D)}, CapsOk f ρ kin cl caps → ∀ q ∈ caps, f.nm[q.2.1]? = some q.1 ∧ ρ[q.2.1]? = some (Vr.val q.2.2) ∧ (f.env.kindOf q.1 = some .cell ∨ f.env.kindOf q.1 = some .free) ∧ (kin q.1 = some .cell ∨ kin q.1 = some .free) ∧ cl.lookup q.1 = f.env.cells.lookup q.1
  | [], _, q, h => by cases h
  | c :: r, h, q, hq => by
    rcases List.mem_cons.mp hq with rfl | hq
    · exact h.1
    · exact CapsOk.mem h.2 q hq
theorem getElem?_pad {k : Nat} {r : List Vr} {i : Nat} {d : D} (h : (List.replicate k Vr.un ++ r)[i]? = some (Vr.val d)) : k ≤ i ∧ r[i - k]? = some (Vr.val d) := by
  rw [List.getElem?_append] at h
  split at h
  · rw [List.getElem?_replicate] at h
    split at h <;> cases h
  · rename_i hlt
    simp at hlt
    exact ⟨hlt, by simpa using h⟩
theorem getElem?_pad_box {k : Nat} {caps : List (Str × Nat × D)} {i : Nat} {l : Bx} (h : (List.replicate k Vr.un ++ cv caps)[i]? = some (Vr.box l)) : False := by
  have := List.mem_of_getElem? h
  rcases List.mem_append.mp this with h | h
  · have := List.eq_of_mem_replicate h; cases this
  · obtain ⟨q, _, hq⟩ := List.mem_map.mp h; cases hq

theorem Ev.comp {elt target iter : Expr} {ifs : List Expr} {scope : Scope} {pos : Pos} {ds : List D} {cl : List (Str × Addr)} (tp : Bool) (V : W.Ok) (tn : List Str) (caps : List (Str × Nat × D)) (p : D → Bool) (g : D → D)
    (hi : It W n f ρ tp iter ds) (ht : ∀ d ∈ ds, TgOk tp target d) (hclos : closureFor scope f.env = pure cl) (hcaps : CapsOk f ρ (fun x => (relabel scope f.env).names.lookup x) cl caps)
    (hturn : ∀ d ∈ ds, ∀ X C L, ∃ tv : List Vr, tv.length = tn.length ∧ Asn W n (fdC f scope cl (tn ++ cn caps) X C L) (List.replicate tn.length .un ++ cv caps) target d (tv ++ cv caps) ∧
      Tss W n (fdC f scope cl (tn ++ cn caps) X C L) (tv ++ cv caps) ifs (p d) ∧ (p d = true → Ev W n (fdC f scope cl (tn ++ cn caps) X C L) (tv ++ cv caps) elt (g d)))
    (hsz : ds.length ≤ sizeLine := by first | decide | size_fits)
    (hnod : (tn ++ cn caps).Nodup := by decide) (hcell : ∀ y ∈ scope.names, y.2 ≠ .cell := by decide) (hkind : scope.kind = .function := by rfl)
    (hnames : ∀ y ∈ scope.names, y.2 = .local → scope.names.lookup y.1 = some .local := by decide)
    (hs : ∀ x, foldedSetIterable iter f.env x = pure x := by intro _; rfl) : Ev W n f ρ (.ListComp elt [⟨target, iter, ifs, 0⟩] scope pos) (.lst ((ds.filter p).map g)) := by
  intro A r s μ I F
  rw [eval_ListComp]
  refine wpAny_comprehension_free (use := none) rfl hs hclos hkind hnames (wpAny_mono (hi A r s μ I F) (fun xv s1 h1 => wpAny_mono h1 (fun it s2 h2 => ?_) fun _ _ z => z) fun _ _ z => z)
  obtain ⟨Zi, k2, I2, hZi, its⟩ := h2
  refine wpAny_newObj_type (wpAny_newFunctionEnv hcell (by intro y hy; simp at hy) (fun h3 hns3 hsb3 => ?_) hkind)
  dsimp only at hns3 hsb3 ⊢
  generalize hD : s2.heap.objs.size = Dl at *
  generalize hH2 : s2.heap.push { cls := .type "list", dict := none, data := .seq ([] : List Value).toArray } = H2 at hns3 hsb3 ⊢
  have hCs : H2.objs.size = Dl + 1 := by rw [← hH2, Heap.size_push, hD]
  generalize hC : H2.objs.size = C at *
  have hDC : (Dl : Addr) ≠ C := by rw [hCs]; exact Nat.ne_of_lt (Nat.lt_succ_self _)
  have hsD : s.heap.objs.size ≤ Dl := by rw [← hD]; exact k2.size
  have hsC : s.heap.objs.size ≤ C := by rw [hCs]; exact Nat.le_succ_of_le hsD
  have sz3 : h3.objs.size = C + 1 := by rw [hsb3.1, Heap.size_push, hC]
  have old : ∀ b o, s2.heap.get? b = some o → h3.get? b = some o := fun b o e => by
    have hlt : b < Dl := hD ▸ Heap.lt_size e
    have hb : b ≠ C := Nat.ne_of_lt (by rw [hCs]; exact Nat.lt_succ_of_lt hlt)
    rw [hsb3.2 b hb, ← hH2]
    exact Heap.get?_push_of_some _ (Heap.get?_push_of_some _ e)
  have hacc : h3.IsList Dl (List.toArray []) := by
    refine ⟨{ cls := .type "list", dict := none, data := .seq ([] : List Value).toArray }, ?_, rfl, _, rfl⟩
    rw [hsb3.2 _ hDC, ← hH2, ← hD]
    exact Heap.get?_push_of_some _ (Heap.get?_push_size _ rfl)
  have kq3 : Kq No s2.heap h3 := .all old (by rw [hD, sz3, hCs]; omega)
  have I3 : Inv W h3 := I2.step V kq3 fun _ z => z.elim
  generalize htk : s2.toks + List.length (α := Str × Value) [] = tk3 at *
  have k3 : Kp No s { s2 with heap := h3, toks := tk3 } := k2.trans0 (kq3.kp fun _ _ z => z)
  let X : Addr → Prop := fun b => Yo f μ b ∨ Zi b ∨ b = Dl
  let fc := fdC f scope cl (tn ++ cn caps) X C s.heap.objs.size
  let μc : Mu := ⟨(· = C), fun _ => 0⟩
  have hXlt : ∀ b, X b → b < h3.objs.size ∧ W.B ≤ b := fun b y => by
    rw [sz3, hCs]
    rcases y with y | y | y
    · refine ⟨Nat.lt_of_lt_of_le (F.lt b y).1 (Nat.le_trans hsD ?_), (F.lt b y).2⟩; omega
    · refine ⟨Nat.lt_trans (hZi b y).2 ?_, Nat.le_trans I.size (hZi b y).1⟩; omega
    · rw [y]; exact ⟨Nat.lt_succ_of_lt (Nat.lt_succ_self _), Nat.le_trans I.size hsD⟩
  have mv3 : Mv (Yo f μ) (Yo fc μc) s.heap h3 := ⟨fun b y => by
    rcases y with (y | y | y) | y
    · exact .inl y
    · exact .inr (hZi b y).1
    · exact .inr (y ▸ hsD)
    · exact .inr (y ▸ hsC), fun b o e _ t => k3.keep b o e (fun z => z) t⟩
  have F3 : Fm W fc (List.replicate tn.length .un ++ cv caps) μc h3 := by
    refine ⟨hkind, F.glob, F.blt, hnod, ⟨_, hns3⟩, rfl, (fun q => by cases q), (fun q => by cases q), fun i x d hi' hd' => ?_, fun i x l _ hl => (getElem?_pad_box hl).elim, fun b y => ?_, fun b z => z ▸ hsC, I.size⟩
    · obtain ⟨hle, hd2⟩ := getElem?_pad hd'
      have hx2 : (cn caps)[i - tn.length]? = some x := by
        have : (tn ++ cn caps)[i]? = some x := hi'
        rwa [List.getElem?_append_right hle] at this
      simp only [cv, cn, List.getElem?_map] at hd2 hx2
      cases hq : caps[i - tn.length]? with
      | none => rw [hq] at hd2; cases hd2
      | some q =>
        rw [hq] at hd2 hx2
        cases hd2; cases hx2
        obtain ⟨e1, e2, e3, e4, e5⟩ := hcaps.mem q (List.mem_of_getElem? hq)
        obtain ⟨v, H, iv⟩ := F.val _ _ _ e1 e2
        refine ⟨v, .inr ⟨e4, ?_⟩, iv.move mv3⟩
        rcases H with ⟨a, _⟩ | ⟨a, c, l, hc⟩
        · rw [a] at e3; rcases e3 with e3 | e3 <;> cases e3
        · refine ⟨c, e5.trans l, ?_⟩
          have nt := cell_notab I hc
          obtain ⟨o, ho, hd⟩ := hc
          exact ⟨o, k3.keep _ _ ho (fun z => z) nt, hd⟩
    · rcases y with y | y
      · exact hXlt b y
      · rw [show b = C from y, sz3]; exact ⟨Nat.lt_succ_self _, Nat.le_trans I.size hsC⟩
  have its3 : ItS (Yo fc μc) Zi tp it ds h3 := its.move ⟨fun b y => by
    rcases y with (y | y | y) | y
    · exact .inl (.inl y)
    · exact .inl (.inr y)
    · exact .inr (by rw [hD]; exact Nat.le_of_eq y.symm)
    · exact .inr (by rw [hD, show b = C from y, hCs]; exact Nat.le_succ _), fun b o e _ _ => old b o e⟩ fun b o _ e => old b o e
  have hZX : ∀ b, Zi b → Yo fc μc b := fun b z => .inl (.inr (.inl z))
  have hZC : ∀ b, Zi b → b ≠ C := fun b z e => by
    have := (hZi b z).2
    rw [show b = C from e, hCs] at this; omega
  have hZD : ∀ b, Zi b → b ≠ Dl := fun b z e => by
    have := (hZi b z).2
    rw [show b = Dl from e] at this; omega
  have loop : codeAny W.M A (.compLoop (.ListComp elt [⟨target, iter, ifs, 0⟩] scope pos) 0 it (.ref Dl) fc.env) (compPost W.M A Fz none (Po W f μ s (.lst ((ds.filter p).map g))) (.ref Dl) C) { s2 with heap := h3, toks := tk3 } := by
    refine compLoop_my (fun k s' => ∃ i ys, k = ds.length - i ∧ i ≤ ds.length ∧ Inv W s'.heap ∧ Fm W fc (List.replicate tn.length .un ++ cv caps) μc s'.heap ∧ ItS (Yo fc μc) Zi tp it (ds.drop i) s'.heap ∧ Kp (fun b => s.heap.objs.size ≤ b) s s' ∧
      s'.heap.IsList Dl (List.toArray ys) ∧ D.IsL (Yo fc μc) s'.heap (((ds.take i).filter p).map g) ys) ?_ ds.length ⟨0, [], by simp, by simp, I3, F3, by simpa using its3, k3.up, hacc, by simpa using D.IsL.nil⟩
    rintro k s' ⟨i, ys, rfl, hle, I', F', its', k', hl', il'⟩
    have tabD : ¬ isTab Dl := by obtain ⟨o, ho, hc, _⟩ := hl'; exact cls_notab I' ho (by rw [hc]; simp)
    cases hd : ds.drop i with
    | nil =>
      have hi' : i = ds.length := by
        have := congrArg List.length hd
        simp at this; omega
      rw [hd] at its'
      refine wpAny_mono (ItS.done V r.hd I' F'.yk hZX its') (fun rr s3 q => ?_) fun _ _ z => z.elim
      obtain ⟨rfl, k3, I3⟩ := q
      have F3 := F'.stepZ I' k3 (fun b z => .inr (.inl z)) its'.fields
      obtain ⟨m, hm⟩ := F3.ns
      refine ⟨m, hm, fun h' hs' => ?_⟩
      have hlD : s3.heap.IsList Dl ys.toArray := hl'.at fun o e => k3.keep _ o e (fun z => hZD _ z rfl) tabD
      have ilD : D.IsL (Yo fc μc) s3.heap (((ds.take i).filter p).map g) ys := il'.move ⟨fun _ z => .inl z, fun b o e y t => k3.keep b o e (fun z => y (hZX b z)) t⟩
      obtain ⟨oC, hoC, hcC⟩ := ns_noCode hm
      have kqC : Kq (fun b => s.heap.objs.size ≤ b) s3.heap h' := (Kq.one hs' hoC hcC).weaken fun b e => .inl (e ▸ hsC)
      have kall : Kp (fun b => s.heap.objs.size ≤ b) s { s3 with heap := h' } := (k'.trans k3 fun b z => .inl (hZi b z).1).trans (kqC.kp (tk := s3.toks) (V.high fun b z => Nat.le_trans I.size z)) fun b z => .inl z
      refine ⟨kall.weaken fun b z => .inr z, I3.step V kqC fun b z => Nat.le_trans I.size z, ?_⟩
      simp only [D.Is]
      refine ⟨Dl, ys, rfl, ⟨fun y => absurd (F.lt _ y).1 (Nat.not_lt.mpr hsD), tabD⟩, hlD.extBut hs'.extBut hDC, ?_⟩
      rw [hi', List.take_length] at ilD
      exact ilD.move ⟨fun b y => .inl (.inl (.inl y)), fun b o e y _ => (hs'.2 b fun q => y (.inr q)).trans e⟩
    | cons d rest =>
      have hil : i < ds.length := by
        have := congrArg List.length hd
        simp at this; omega
      have hdi : ds[i]? = some d := by
        have := congrArg (·[0]?) hd
        simpa using this
      have hrest : ds.drop (i + 1) = rest := by rw [← List.tail_drop, hd]; rfl
      have htake : ds.take (i + 1) = ds.take i ++ [d] := by rw [List.take_add_one, hdi]; rfl
      rw [hd] at its'
      have hmem := List.mem_of_getElem? hdi
      obtain ⟨tv, htv, ha, htst, hel⟩ := hturn d hmem X C s.heap.objs.size
      refine wpAny_mono (ItS.next V I' F'.yk hZX its' (ht d hmem)) (fun rr s3 q => ?_) fun _ _ z => z.elim
      obtain ⟨v, rfl, q⟩ := q
      refine wpAny_mono q (fun _ s4 q => ?_) fun _ _ z => z.elim
      obtain ⟨k4, I4, iv, it4⟩ := q
      have F4 := F'.stepZ I' k4 (fun b z => .inr (.inl z)) its'.fields
      have l4 : s4.heap.IsList Dl ys.toArray := hl'.at fun o e => k4.keep _ o e (fun z => hZD _ z rfl) tabD
      have il4 : D.IsL (Yo fc μc) s4.heap (((ds.take i).filter p).map g) ys := il'.move ⟨fun _ z => .inl z, fun b o e y t => k4.keep b o e (fun z => y (hZX b z)) t⟩
      refine wpAny_mono (ha A r s4 μc v I4 F4 iv) (fun _ s5 q => ?_) fun _ _ z => z.elim
      obtain ⟨k5, I5, F5⟩ := q
      have m5 : Mv (Yo fc μc) (Yo fc μc) s4.heap s5.heap := ⟨fun _ z => .inl z, fun b o e y t => k5.keep b o e (fun z => y (.inr z.1)) t⟩
      have it5 : ItS (Yo fc μc) Zi tp it rest s5.heap := it4.move m5 fun b o z e => k5.keep b o e (fun q => hZC b z q.1) (F5.notab V (hZX b z))
      have l5 : s5.heap.IsList Dl ys.toArray := l4.at fun o e => k5.keep _ o e (fun q => hDC q.1) tabD
      have il5 := il4.move m5
      have k05 : Kp (fun b => s.heap.objs.size ≤ b) s s5 := (k'.trans k4 fun b z => .inl (hZi b z).1).trans k5 fun b z => .inl (by rw [show b = C from z.1]; exact hsC)
      refine wpAny_mono (htst A r s5 μc I5 F5) (fun ok s6 q => ?_) fun _ _ z => z.elim
      obtain ⟨rfl, k6, I6⟩ := q
      have F6 := F5.step I5 k6
      have m6 : Mv (Yo fc μc) (Yo fc μc) s5.heap s6.heap := Mv.of_kp k6
      have it6 : ItS (Yo fc μc) Zi tp it rest s6.heap := it5.move m6 fun b o z e => k6.keep b o e (fun q => q) (F5.notab V (hZX b z))
      have l6 : s6.heap.IsList Dl ys.toArray := l5.at fun o e => k6.keep _ o e (fun q => q) tabD
      have il6 := il5.move m6
      have k06 : Kp (fun b => s.heap.objs.size ≤ b) s s6 := k05.trans k6 fun b z => z.elim
      have forget : ∀ {s7 : Shared}, Fm W fc (tv ++ cv caps) μc s7.heap → Fm W fc (List.replicate tn.length .un ++ cv caps) μc s7.heap := fun F7 => by
        refine F7.forget (fun j d' hj => ?_) fun j l hj => (getElem?_pad_box hj).elim
        obtain ⟨hle, hj2⟩ := getElem?_pad hj
        rw [List.getElem?_append_right (by rw [htv]; exact hle), htv]
        exact hj2
      cases hp : p d with
      | false =>
        simp only [Bool.false_eq_true, if_false]
        refine ⟨ds.length - (i + 1), by omega, i + 1, ys, rfl, hil, I6, forget F6, by rw [hrest]; exact it6, k06, l6, ?_⟩
        rw [htake, List.filter_append]
        simpa [hp] using il6
      | true =>
        simp only [if_true]
        refine (hel hp).use r I6 F6 fun x s7 k7 I7 F7 i7 => ?_
        have m7 : Mv (Yo fc μc) (Yo fc μc) s6.heap s7.heap := Mv.of_kp k7
        have it7 : ItS (Yo fc μc) Zi tp it rest s7.heap := it6.move m7 fun b o z e => k7.keep b o e (fun q => q) (F6.notab V (hZX b z))
        have l7 : s7.heap.IsList Dl ys.toArray := l6.at fun o e => k7.keep _ o e (fun q => q) tabD
        have il7 := il6.move m7
        have hys : ys.length ≤ sizeLine := by
          have e1 := il7.length
          rw [e1, List.length_map]
          exact Nat.le_trans (List.length_filter_le _ _) (Nat.le_trans (by rw [List.length_take]; exact Nat.min_le_right _ _) hsz)
        refine wpAny_list_append (hsz := by simpa using hys) l7 fun h8 l8 hs8 => ?_
        obtain ⟨oD, hoD, hcD⟩ := list_noCode l7
        have kq8 : Kq (fun b => b = Dl) s7.heap h8 := Kq.one hs8 hoD hcD
        have hBD : ∀ b, b = Dl → W.B ≤ b := fun b e => e ▸ Nat.le_trans I.size hsD
        have k8 : Kp (fun b => b = Dl) s7 { s7 with heap := h8 } := kq8.kp (tk := s7.toks) (V.high hBD)
        have m8 : Mv (Yo fc μc) (Yo fc μc) s7.heap h8 := ⟨fun _ z => .inl z, fun b o e y _ => kq8.keep b o e fun q => y (.inl (.inr (.inr q)))⟩
        refine ⟨ds.length - (i + 1), by omega, i + 1, ys ++ [x], rfl, hil, I7.step V kq8 hBD, ?_, ?_, (k06.trans k7 fun b z => z.elim).trans k8 fun b e => .inl (e ▸ hsD), by simpa using l8, ?_⟩
        · refine forget ?_
          refine F7.move (X := fc.X) (s' := { s7 with heap := h8 }) m8 (fun a o e nf ns t => (hs8.2 a fun q => ?_).trans e) I7 (fun b y => by rw [hs8.1]; exact F7.lt b (.inl y)) (Nat.le_of_eq hs8.1.symm)
          subst q
          rw [hoD] at e; cases e
          obtain ⟨o', ho', _, k, hd'⟩ := l7
          rw [hoD] at ho'; cases ho'
          exact hDC (ns _ _ hd')
        · rw [hrest]; exact it7.move m8 fun b o z e => (hs8.2 b (hZD b z)).trans e
        · rw [htake, List.filter_append, List.map_append]
          refine D.IsL.append (il7.move m8) ?_
          simpa [hp] using D.IsL.cons (i7.move m8) D.IsL.nil
  exact codeAny_compStart_list loop (ItS.self (s := { s2 with heap := h3, toks := tk3 }) its3 loop |> fun h => wpAny_mono h (fun _ _ q => q) fun _ _ z => z.elim)
end
end Mine
end
section -- S9
open PySem PySem.W PyProof.Rows PySem.Calls PySem.Spec
set_option Elab.async false
set_option maxRecDepth 100000
set_option linter.unusedVariables false
set_option autoImplicit false
namespace Mine
section
variable {W : Wd} {f : Fd} {ρ ρ' : List Vr} {μ : Mu} {n : Nat}

theorem Ev.conv {e : Expr} {d d' : D} (h : Ev W n f ρ e d) (q : d = d') : Ev W n f ρ e d' := q ▸ h
theorem Ts.conv {e : Expr} {d d' : Bool} (h : Ts W n f ρ e d) (q : d = d') : Ts W n f ρ e d' := q ▸ h
theorem Ev.le {m : Nat} {e : Expr} {d : D} (h : Ev W m f ρ e d) (q : m ≤ n) : Ev W n f ρ e d := fun A r => h A (r.le q)
theorem Cl.le {m : Nat} {fv : Value} {ds : List D} {d : D} (h : Cl W m fv ds d) (q : m ≤ n) : Cl W n fv ds d := fun A r => h A (r.le q)

-- subscripts
theorem subTail {A : Around} {s : Shared} {value slice : Expr} {o i : Value} {T id : String} {Q : Value → Shared → Prop} (hT : s.TypeIs o T)
    (hl : typeLookup (.type T) "__getitem__" = pure (some (.builtin id))) (h : wpAny W.M A (getItem o i) Q Fz s)
    (hs : subscripted slice false o i = operate [o, i] (getItem o i)) : wpAny W.M A (subscriptTail value slice o i) Q Fz s := by
  unfold subscriptTail
  refine wpAny_bind ?_
  rw [getitemInPython_of_ne hT.not_modules]
  refine wpAny_bind (wpAny_specialOf hT hl ?_)
  have lt : ∀ r s₃, Q r s₃ → wpAny W.M A (letTemporaryGo value o r >>= fun _ => pure r) Q Fz s₃ := fun r s₃ h₃ => wpAny_bind (wpAny_letTemporaryGo (wpAny_pure h₃))
  have fin : wpAny W.M A (subscripted slice false o i) (fun r s₃ => wpAny W.M A (letTemporaryGo value o r >>= fun _ => pure r) Q Fz s₃) Fz s := by
    rw [hs]
    exact wpAny_operating (wpAny_mono h (fun r s₃ h₃ => lt r s₃ h₃) fun _ _ x => x)
  first
    | exact wpAny_pure (wpAny_bind fin)
    | exact wpAny_bind (wpAny_pure (wpAny_bind fin))
    | exact wpAny_bind fin
theorem subEv {A : Around} {s : Shared} {value slice : Expr} {pos : Pos} {T id : String} {d1 d2 : D} {Q : Value → Shared → Prop} (h1 : Ev W n f ρ value d1) (h2 : Ev W n f ρ slice d2)
    (r : Rm n A) (I : Inv W s.heap) (F : Fm W f ρ μ s.heap) (hl : typeLookup (.type T) "__getitem__" = pure (some (.builtin id)))
    (hs : ∀ o i, subscripted slice false o i = operate [o, i] (getItem o i) ∨ subscripted slice false o i = operate [i, o] (getItem o i))
    (h : ∀ v1 v2 s', Kp No s s' → Inv W s'.heap → Fm W f ρ μ s'.heap → d1.Is (Yo f μ) s'.heap v1 → d2.Is (Yo f μ) s'.heap v2 → s'.TypeIs v1 T ∧ wpAny W.M A (getItem v1 v2) Q Fz s') :
    wpAny W.M A (eval (.Subscript value slice pos) f.env) Q Fz s := by
  refine Subscript_ (h1.use r I F fun v1 s1 k1 I1 F1 i1 => h2.use r I1 F1 fun v2 s2 k2 I2 F2 i2 => ?_)
  obtain ⟨hT, hg⟩ := h v1 v2 s2 (k1.trans0 k2) I2 F2 (i1.step k2) i2
  have lt : ∀ r s₃, Q r s₃ → wpAny W.M A (letTemporaryGo value v1 r >>= fun _ => pure r) Q Fz s₃ := fun r s₃ h₃ => wpAny_bind (wpAny_letTemporaryGo (wpAny_pure h₃))
  unfold subscriptTail
  refine wpAny_bind ?_
  rw [getitemInPython_of_ne hT.not_modules]
  refine wpAny_bind (wpAny_specialOf hT hl ?_)
  have fin : wpAny W.M A (subscripted slice false v1 v2) (fun r s₃ => wpAny W.M A (letTemporaryGo value v1 r >>= fun _ => pure r) Q Fz s₃) Fz s2 := by
    rcases hs v1 v2 with e | e <;> rw [e] <;> exact wpAny_operating (wpAny_mono hg (fun r s₃ h₃ => lt r s₃ h₃) fun _ _ x => x)
  first
    | exact wpAny_pure (wpAny_bind fin)
    | exact wpAny_bind (wpAny_pure (wpAny_bind fin))
    | exact wpAny_bind fin

theorem Ev.itemL {value slice : Expr} {pos : Pos} {ds : List D} {k : Nat} {d : D} (h1 : Ev W n f ρ value (.lst ds)) (h2 : Ev W n f ρ slice (.int k)) (hd : ds[k]? = some d) (hk : k < 1000000 := by first | decide | omega)
    (hs : ∀ o i, subscripted slice false o i = operate [o, i] (getItem o i) := by intro _ _; with_unfolding_all rfl) : Ev W n f ρ (.Subscript value slice pos) d := by
  intro A r s μ I F
  refine subEv (T := "list") h1 h2 r I F list_getitem_lookup (fun o i => .inl (hs o i)) fun v1 v2 s' k' I' F' i1 i2 => ?_
  simp only [D.Is] at i1 i2
  obtain ⟨a, vs, rfl, av, hl, il⟩ := i1
  obtain ⟨t, rfl⟩ := i2
  obtain ⟨v, hv, iv⟩ := il.get k hd
  exact ⟨hl.typeIs, wpAny_getItem_list hl (by omega) (by omega) (by simpa using hv) ⟨k', I', iv⟩⟩
theorem Ev.itemLast {value slice : Expr} {pos : Pos} {ds : List D} {d : D} (h1 : Ev W n f ρ value (.lst (ds ++ [d]))) (h2 : Ev W n f ρ slice (.int (-1)))
    (hs : ∀ o i, subscripted slice false o i = operate [o, i] (getItem o i) := by intro _ _; with_unfolding_all rfl) : Ev W n f ρ (.Subscript value slice pos) d := by
  intro A r s μ I F
  refine subEv (T := "list") h1 h2 r I F list_getitem_lookup (fun o i => .inl (hs o i)) fun v1 v2 s' k' I' F' i1 i2 => ?_
  simp only [D.Is] at i1 i2
  obtain ⟨a, vs, rfl, av, hl, il⟩ := i1
  obtain ⟨t, rfl⟩ := i2
  have hlen := il.length
  simp only [List.length_append, List.length_singleton] at hlen
  obtain ⟨v, hv, iv⟩ := il.get ds.length (d := d) (by simp)
  refine ⟨hl.typeIs, wpAny_getItem_list_neg hl (by omega) (by simp; omega) (by omega) (x := v) ?_ ⟨k', I', iv⟩⟩
  have : ((-1 : Int) + (vs.toArray.size : Nat)).toNat = ds.length := by simp; omega
  rw [this]
  simpa using hv
theorem Ev.itemT {value slice : Expr} {pos : Pos} {ds : List D} {k : Nat} {d : D} (h1 : Ev W n f ρ value (.tup ds)) (h2 : Ev W n f ρ slice (.int k)) (hd : ds[k]? = some d) (hk : k < 1000000 := by first | decide | omega)
    (hs : ∀ o i, subscripted slice false o i = operate [o, i] (getItem o i) := by intro _ _; with_unfolding_all rfl) : Ev W n f ρ (.Subscript value slice pos) d := by
  intro A r s μ I F
  refine subEv (T := "tuple") h1 h2 r I F slot_tuple_getitem.lookup (fun o i => .inl (hs o i)) fun v1 v2 s' k' I' F' i1 i2 => ?_
  simp only [D.Is] at i1 i2
  obtain ⟨a, vs, rfl, av, hl, il⟩ := i1
  obtain ⟨t, rfl⟩ := i2
  obtain ⟨v, hv, iv⟩ := il.get k hd
  have hlt : k < vs.length := by
    rw [List.getElem?_eq_some_iff] at hv; exact hv.1
  have hl' : IsTup s'.heap a vs.toArray := hl
  refine ⟨hl'.typeIs, PyProof.Rows.getItem_tuple hl' (by omega) (by omega) (j := k) ?_ (by simpa using hv) ⟨k', I', iv⟩⟩
  unfold seqIndex?
  simp; omega
theorem Ev.itemS {value slice : Expr} {pos : Pos} {x : Str} {k : Nat} {c : Nat} (h1 : Ev W n f ρ value (.str x)) (h2 : Ev W n f ρ slice (.int k)) (hd : x.cps[k]? = some c) (hk : k < 1000000 := by first | decide | omega)
    (hs : ∀ o i, subscripted slice false o i = operate [o, i] (getItem o i) := by intro _ _; with_unfolding_all rfl) : Ev W n f ρ (.Subscript value slice pos) (.str ⟨#[c]⟩) := by
  intro A r s μ I F
  refine subEv (T := "str") h1 h2 r I F PySem.F.slot_str_getitem.lookup (fun o i => .inl (hs o i)) fun v1 v2 s' k' I' F' i1 i2 => ?_
  simp only [D.Is] at i1 i2
  obtain ⟨u, rfl⟩ := i1
  obtain ⟨t, rfl⟩ := i2
  have hlt : k < x.cps.size := by
    rw [Array.getElem?_eq_some_iff] at hd; exact hd.1
  refine ⟨typeIs_str s' x u, P.getItem_str (by simp; omega) (c := c) ?_ (Pv.trans k' (Pv.tk _ I' D.Is.str))⟩
  have : seqIndex? (k : Int) x.length = some k := by
    unfold seqIndex?
    have : x.length = x.cps.size := rfl
    rw [this]
    simp; omega
  rw [this]
  exact hd

-- slices
noncomputable def EvP (W : Wd) (n : Nat) (f : Fd) (ρ : List Vr) (e : Option Expr) (o : Option Int) : Prop :=
  ∀ A, Rm n A → ∀ s μ, Inv W s.heap → Fm W f ρ μ s.heap → wpAny W.M A (evalPart e f.env) (fun v s' => Kp No s s' ∧ Inv W s'.heap ∧ PartIs o v) Fz s
theorem EvP.none : EvP W n f ρ none none := fun A r s μ I F => wpAny_of_eq (evalPart_none f.env) ⟨Kp.refl _ _, I, rfl⟩
theorem EvP.some {e : Expr} {i : Int} (h : Ev W n f ρ e (.int i)) : EvP W n f ρ (some e) (some i) := fun A r s μ I F => by
  rw [evalPart_some]
  exact wpAny_mono (h A r s μ I F) (fun v s' p => ⟨p.1, p.2.1, D.Is.int_iff.mp p.2.2⟩) fun _ _ z => z
theorem PartIs.part {o : Option Int} {v : Value} (h : PartIs o v) : IsPart v o := by
  cases o with
  | none => rw [show v = .none from h]; exact .none
  | some i => obtain ⟨t, rfl⟩ := (show ∃ t, v = .int i t from h); exact .int i t
theorem PartIs.val {o : Option Int} {v : Value} (h : PartIs o v) : ∃ l : Option (Int × Tok), v = partValue l ∧ l.map (·.1) = o := by
  cases o with
  | none => exact ⟨.none, h, rfl⟩
  | some i => obtain ⟨t, rfl⟩ := (show ∃ t, v = .int i t from h); exact ⟨.some (i, t), rfl, rfl⟩
noncomputable def lsl {α : Type} (l : List α) (lo hi : Option Int) : List α := (l.drop (lo.elim 0 (clipAt l.length))).take (hi.elim l.length (clipAt l.length) - lo.elim 0 (clipAt l.length))
theorem Ev.sliceL {value : Expr} {lower upper : Option Expr} {p pos : Pos} {ds : List D} {lo hi : Option Int} (V : W.Ok) (h1 : Ev W n f ρ value (.lst ds)) (hl : EvP W n f ρ lower lo) (hu : EvP W n f ρ upper hi) (hsz : ds.length ≤ sizeLine)
    (ht : ∀ o r, letTemporaryGo value o r = pure () := by intro _ _; rfl) : Ev W n f ρ (.Subscript value (.Slice lower upper none p) pos) (.lst (lsl ds lo hi)) := by
  intro A r s μ I F
  refine wpAny_Subscript_list_slice (h1.use r I F fun v1 s1 k1 I1 F1 i1 => wpAny_mono (hl A r s1 μ I1 F1) (fun vl s2 p2 => wpAny_mono (hu A r s2 μ p2.2.1 (F1.step I1 p2.1)) (fun vu s3 p3 => ?_) fun _ _ z => z) fun _ _ z => z) ht
  obtain ⟨k2, I2, pl⟩ := p2
  obtain ⟨k3, I3, pu⟩ := p3
  have i3 := (i1.step k2).step k3
  have F3 := (F1.step I1 k2).step I2 k3
  simp only [D.Is] at i3
  obtain ⟨a, vs, rfl, av, hl3, il⟩ := i3
  refine ⟨a, vs.toArray, lo, hi, rfl, hl3, by simp [il.length]; exact hsz, pl.part, pu.part, ?_⟩
  have kq : Kq No s3.heap ((s3.heap.push { cls := .type "slice", data := .fields #[vl, vu, .none] }).push { cls := .type "list", data := .seq (slicePick vs.toArray lo hi none) }) := (Kq.push _ _).trans (Kq.push _ _) fun _ z => .inl z
  refine ⟨((k1.trans0 k2).trans0 k3).trans0 (kq.kp (tk := s3.toks) fun _ _ z => z), I3.step V kq fun _ z => z.elim, ?_⟩
  simp only [D.Is]
  refine ⟨_, lsl vs lo hi, rfl, F3.yk.av V I3 (Nat.le_succ _), ?_, ?_⟩
  · refine ⟨{ cls := .type "list", data := .seq (slicePick vs.toArray lo hi none) }, ?_, rfl, 0, ?_⟩
    · have := Heap.get?_push_size (s3.heap.push { cls := .type "slice", data := .fields #[vl, vu, .none] }) (o := { cls := .type "list", data := .seq (slicePick vs.toArray lo hi none) }) rfl
      rw [Heap.size_push] at this
      exact this
    · rw [slicePick_plain]; simp [lsl]
  · have hlen := il.length
    unfold lsl
    rw [hlen]
    exact D.IsL.take _ (D.IsL.drop _ (il.move ⟨fun _ z => .inl z, fun b o e _ _ => Heap.get?_push_of_some _ (Heap.get?_push_of_some _ e)⟩))
/-- a piece of a text -/
noncomputable def cutS (x : Str) (lo hi : Option Int) : Str := if ((Builtin.Str.strSliceIndices lo hi 1 x.length).length == x.length) = true then x else ⟨((Builtin.Str.strSliceIndices lo hi 1 x.length).filterMap (x.cps[·]?)).toArray⟩
theorem Ev.sliceS {value : Expr} {lower upper : Option Expr} {p pos : Pos} {x : Str} {lo hi : Option Int} (V : W.Ok) (h1 : Ev W n f ρ value (.str x)) (hl : EvP W n f ρ lower lo) (hu : EvP W n f ρ upper hi) (hsz : x.length ≤ 1000)
    (ht : ∀ o r, letTemporaryGo value o r = pure () := by intro _ _; rfl) : Ev W n f ρ (.Subscript value (.Slice lower upper none p) pos) (.str (cutS x lo hi)) := by
  intro A r s μ I F
  refine wpAny_Subscript_str_slice (h1.use r I F fun v1 s1 k1 I1 F1 i1 => wpAny_mono (hl A r s1 μ I1 F1) (fun vl s2 p2 => wpAny_mono (hu A r s2 μ p2.2.1 (F1.step I1 p2.1)) (fun vu s3 p3 => ?_) fun _ _ z => z) fun _ _ z => z) ht
  obtain ⟨k2, I2, pl⟩ := p2
  obtain ⟨k3, I3, pu⟩ := p3
  obtain ⟨t, rfl⟩ := D.Is.str_iff.mp i1
  obtain ⟨l, rfl, el⟩ := pl.val
  obtain ⟨u, rfl, eu⟩ := pu.val
  refine ⟨x, t, l, u, rfl, rfl, rfl, ?_⟩
  have k4 : Kp No s { s3 with heap := s3.heap.push { cls := .type "slice", data := .fields #[partValue l, partValue u, .none] } } := ((k1.trans0 k2).trans0 k3).trans0 (Kp.push _)
  have I4 := I3.push V { cls := .type "slice", data := .fields #[partValue l, partValue u, .none] }
  have e : slicePicked x l u .none = Builtin.Str.strSliceIndices lo hi 1 x.length := by unfold slicePicked; rw [el, eu]; rfl
  unfold sliceMade
  rw [e]
  unfold cutS
  simp only [Option.map_none, Option.getD_none, beq_self_eq_true, Bool.true_and]
  split
  · exact ⟨k4, I4, D.Is.str⟩
  · refine ⟨?_, k4.trans0 (Kp.toks _ _), I4, D.Is.str⟩
    show Array.size _ ≤ sizeLine
    rw [List.size_toArray]
    refine Nat.le_trans (List.length_filterMap_le _ _) (Nat.le_trans (indices_len_le _ _ _) ?_)
    unfold sizeLine; omega
end
end Mine
end
section -- S10
open PySem PySem.W PyProof.Rows PySem.Calls PySem.Spec
set_option Elab.async false
set_option maxRecDepth 100000
set_option linter.unusedVariables false
set_option autoImplicit false
namespace Mine
/-- the text of a number -/
noncomputable abbrev num (n : Int) : Str := Str.ofString (toString n)
section
variable {W : Wd} {f : Fd} {ρ ρ' : List Vr} {μ : Mu} {n : Nat}

theorem F1.negI {a : Int} : F1 W n (unaryOp .USub) (.int a) (.int (-a)) := by
  intro A r s Y v1 I y i1
  obtain ⟨t, rfl⟩ := D.Is.int_iff.mp i1
  exact PyProof.Rows.neg_int (Pv.tk _ I D.Is.int)
theorem Ev.neg {e : Expr} {pos : Pos} {a : Int} (h : Ev W n f ρ e (.int a)) : Ev W n f ρ (.UnaryOp .USub e pos) (.int (-a)) := by
  intro A r s μ I F
  refine UnaryOp_ (h.use r I F fun v s1 k1 I1 F1 i1 => ?_)
  exact wpAny_mono (Mine.F1.negI (n := n) A r s1 _ v I1 F1.yk i1) (fun v s' p => Pv.trans k1 p) fun _ _ z => z

-- is None
theorem F2.isNone : F2 W n (compareOp .Is) D.none D.none (D.bool true) := by
  intro A r s Y v1 v2 I y i1 i2
  obtain rfl := D.Is.val_iff.mp i1
  obtain rfl := D.Is.val_iff.mp i2
  exact wpAny_is_self rfl (Pv.here I D.Is.val)
theorem F2.isNoneI {a : Int} : F2 W n (compareOp .Is) (.int a) D.none (D.bool false) := by
  intro A r s Y v1 v2 I y i1 i2
  obtain ⟨t, rfl⟩ := D.Is.int_iff.mp i1
  obtain rfl := D.Is.val_iff.mp i2
  exact is_int_none (Pv.here I D.Is.val)
theorem F2.eqNS {x : Str} : F2 W n (compareOp .Eq) D.none (.str x) (D.bool false) := by
  intro A r s Y v1 v2 I y i1 i2
  obtain rfl := D.Is.val_iff.mp i1
  obtain ⟨t, rfl⟩ := D.Is.str_iff.mp i2
  exact EqNone.eq_none_str (Pv.here I D.Is.val)
/-- whether y is a part of x -/
noncomputable def occ (y x : Str) : Bool := !(Builtin.Str.occurrences x y 0 x.length 1).isEmpty
theorem F2.inS {y x : Str} : F2 W n (compareOp .In) (.str y) (.str x) (D.bool (occ y x)) := by
  intro A r s Y v1 v2 I y' i1 i2
  obtain ⟨t, rfl⟩ := D.Is.str_iff.mp i1
  obtain ⟨u, rfl⟩ := D.Is.str_iff.mp i2
  exact P.in_str (Pv.here I D.Is.val)
theorem F2.addL {a b : List D} (V : W.Ok) (hsz : a.length + b.length ≤ sizeLine) : F2 W n (binaryOp .Add) (.lst a) (.lst b) (.lst (a ++ b)) := by
  intro A r s Y v1 v2 I y i1 i2
  simp only [D.Is] at i1 i2
  obtain ⟨l, vs, rfl, av, hl, il⟩ := i1
  obtain ⟨b', ws, rfl, bv, hb, jl⟩ := i2
  have hlen := il.length
  have hlen2 := jl.length
  obtain ⟨⟨cls, dd, data, sl⟩, ho, hc, n, hd⟩ := id hl
  obtain ⟨⟨cls2, dd2, data2, sl2⟩, ho2, hc2, n2, hd2⟩ := id hb
  simp only at hc hd hc2 hd2
  subst hc hd hc2 hd2
  refine concat_meets ⟨_, ho, rfl⟩ ⟨_, ho2, rfl⟩ noFill_list_add seq_list_add PySem.F.slot_list_add PySem.F.entry_list_add (PySem.F.args_list_add_2 _ _) (list_addW l b' vs.toArray ws.toArray n n2 dd dd2 sl sl2 (by simp; omega)) ⟨ho, ho2, ?_⟩
  refine ⟨Kp.push _, I.push V _, ?_⟩
  simp only [D.Is]
  refine ⟨_, vs ++ ws, rfl, y.av V I (Nat.le_refl _), ⟨_, Heap.get?_push_size _ rfl, rfl, 0, by simp⟩, ?_⟩
  exact (D.IsL.append il jl).step (s := s) (s' := { s with heap := s.heap.push _ }) (Kp.push _)

-- deep comparison
mutual
noncomputable def dP : D → PyData
  | .val (.bool b) => .bool b
  | .val _ => .none
  | .int i => .int i
  | .str x => .str x
  | .tup l => .tuple (dPs l)
  | .lst l => .list (dPs l)
  | .qn _ => .none
  | .thing _ => .none
  | .ex _ _ => .none
  | .slc _ _ => .none
noncomputable def dPs : List D → List PyData
  | [] => []
  | d :: r => dP d :: dPs r
end
mutual
noncomputable def okD : Nat → D → Bool
  | _, .val .none => true
  | _, .int _ => true
  | _, .str x => PyData.strOk x
  | k + 1, .tup l => okDs k l
  | k + 1, .lst l => okDs k l
  | _, _ => false
noncomputable def okDs : Nat → List D → Bool
  | _, [] => true
  | k, d :: r => okD k d && okDs k r
end
mutual
theorem dP_reads {Y : Addr → Prop} {h : Heap} : ∀ {d : D} {v : Value} {k : Nat}, D.Is Y h d v → okD k d = true → ∃ as, Reads h v (dP d) as
  | .val u, v, k, x, o => by
    simp only [D.Is] at x; subst x
    cases v <;> cases k <;> simp [okD] at o
    all_goals exact ⟨_, Reads.none⟩
  | .int i, v, k, x, o => by
    simp only [D.Is] at x; obtain ⟨t, rfl⟩ := x
    exact ⟨_, by rw [dP]; exact Reads.int i t⟩
  | .str i, v, k, x, o => by
    simp only [D.Is] at x; obtain ⟨t, rfl⟩ := x
    exact ⟨_, by rw [dP]; exact Reads.str i t⟩
  | .tup l, v, 0, x, o => by simp [okD] at o
  | .lst l, v, 0, x, o => by simp [okD] at o
  | .tup l, v, k + 1, x, o => by
    simp only [D.Is] at x
    obtain ⟨a, vs, rfl, av, ⟨ob, ho, hc, n, hd⟩, il⟩ := x
    obtain ⟨as, r⟩ := dPs_reads (k := k) il (by simpa [okD] using o)
    rw [dP]
    exact ⟨as, reads_tuple_at ho hc hd (by simpa using r)⟩
  | .lst l, v, k + 1, x, o => by
    simp only [D.Is] at x
    obtain ⟨a, vs, rfl, av, ⟨ob, ho, hc, n, hd⟩, il⟩ := x
    obtain ⟨as, r⟩ := dPs_reads (k := k) il (by simpa [okD] using o)
    rw [dP]
    exact ⟨_, reads_list_at ho hc hd (by simpa using r)⟩
  | .qn _, v, k, x, o => by cases k <;> simp [okD] at o
  | .thing _, v, k, x, o => by cases k <;> simp [okD] at o
  | .ex _ _, v, k, x, o => by cases k <;> simp [okD] at o
  | .slc _ _, v, k, x, o => by cases k <;> simp [okD] at o
theorem dPs_reads {Y : Addr → Prop} {h : Heap} : ∀ {l : List D} {vs : List Value} {k : Nat}, D.IsL Y h l vs → okDs k l = true → ∃ as, ReadsAll h vs (dPs l) as
  | [], vs, k, x, o => by simp only [D.IsL] at x; subst x; exact ⟨_, by rw [dPs]; exact .nil⟩
  | d :: l, vs, k, x, o => by
    simp only [D.IsL] at x
    obtain ⟨v, r, rfl, a, b⟩ := x
    simp only [okDs, Bool.and_eq_true] at o
    obtain ⟨as, p⟩ := dP_reads a o.1
    obtain ⟨bs, q⟩ := dPs_reads b o.2
    rw [dPs]
    exact ⟨_, .cons p q⟩
end
mutual
theorem dP_lay : ∀ {d : D} {k : Nat}, okD k d = true → (dP d).canLay0 = true ∧ (dP d).depth ≤ k
  | .val u, k, o => by
    cases u <;> cases k <;> simp [okD] at o <;> simp [dP, PyData.canLay0, PyData.depth]
  | .int i, k, o => by simp [dP, PyData.canLay0, PyData.depth]
  | .str i, k, o => by
    have : PyData.strOk i = true := by cases k <;> simpa [okD] using o
    simp [dP, PyData.canLay0, PyData.depth, this]
  | .tup l, 0, o => by simp [okD] at o
  | .lst l, 0, o => by simp [okD] at o
  | .tup l, k + 1, o => by
    have q := dPs_lay (l := l) (k := k) (by simpa [okD] using o)
    have q2 := q.2
    simp only [dP, PyData.canLay0, PyData.depth, q.1, true_and]
    omega
  | .lst l, k + 1, o => by
    have q := dPs_lay (l := l) (k := k) (by simpa [okD] using o)
    have q2 := q.2
    simp only [dP, PyData.canLay0, PyData.depth, q.1, true_and]
    omega
  | .qn _, k, o => by cases k <;> simp [okD] at o
  | .thing _, k, o => by cases k <;> simp [okD] at o
  | .ex _ _, k, o => by cases k <;> simp [okD] at o
  | .slc _ _, k, o => by cases k <;> simp [okD] at o
theorem dPs_lay : ∀ {l : List D} {k : Nat}, okDs k l = true → PyData.canLayAll0 (dPs l) = true ∧ PyData.depthAll (dPs l) ≤ k
  | [], k, o => by simp [dPs, PyData.canLayAll0, PyData.depthAll]
  | d :: l, k, o => by
    simp only [okDs, Bool.and_eq_true] at o
    have h1 := dP_lay o.1
    have h2 := dPs_lay o.2
    simp only [dPs, PyData.canLayAll0, PyData.depthAll, h1.1, h2.1, Bool.and_self, true_and]
    have a1 := h1.2
    have a2 := h2.2
    omega
end
noncomputable abbrev eqvD (a b : D) : Bool := PyData.eqv (dP a) (dP b)
theorem shapedD {d : D} (h : okD 8 d = true) : SeqAt.shaped (dP d) = true := by
  have q := dP_lay h
  unfold SeqAt.shaped; rw [q.1, Bool.true_and]; exact decide_eq_true (Nat.le_trans q.2 (by decide))
theorem F2.eqD {a b : D} (ha : okD 8 a = true) (hb : okD 8 b = true) : F2 W n (compareOp .Eq) a b (D.bool (eqvD a b)) := by
  intro A r s Y v1 v2 I y i1 i2
  obtain ⟨as, ra⟩ := dP_reads i1 ha
  obtain ⟨bs, rb⟩ := dP_reads i2 hb
  exact eq_dataH ra rb (shapedD ha) (shapedD hb) (by have := r.2.2; unfold cLine; omega) (Pv.here I D.Is.val)
theorem F2.neD {a b : D} (ha : okD 8 a = true) (hb : okD 8 b = true) : F2 W n (compareOp .NotEq) a b (D.bool (!eqvD a b)) := by
  intro A r s Y v1 v2 I y i1 i2
  obtain ⟨as, ra⟩ := dP_reads i1 ha
  obtain ⟨bs, rb⟩ := dP_reads i2 hb
  exact ne_dataH ra rb (shapedD ha) (shapedD hb) (by have := r.2.2; unfold cLine; omega) (Pv.here I D.Is.val)
theorem F2.inL {a : D} {l : List D} (ha : okD 7 a = true) (hb : okDs 7 l = true) : F2 W n (compareOp .In) a (.lst l) (D.bool ((dPs l).any fun y => PyData.eqv y (dP a))) := by
  intro A r s Y v1 v2 I y i1 i2
  obtain ⟨as, ra⟩ := dP_reads i1 ha
  obtain ⟨bs, rb⟩ := dP_reads (k := 8) i2 (by simpa [okD] using hb)
  rw [dP] at rb
  have q := dP_lay ha
  have p := dPs_lay hb
  have q2 := q.2
  refine SeqAt.in_list_reads rb ra p.1 q.1 ?_ (Pv.here I D.Is.val)
  have := Nat.min_le_right (PyData.depthAll (dPs l)) (dP a).depth
  have := r.2.2
  unfold cLine
  omega
theorem F2.ninL {a : D} {l : List D} (ha : okD 7 a = true) (hb : okDs 7 l = true) : F2 W n (compareOp .NotIn) a (.lst l) (D.bool (!(dPs l).any fun y => PyData.eqv y (dP a))) := by
  intro A r s Y v1 v2 I y i1 i2
  obtain ⟨as, ra⟩ := dP_reads i1 ha
  obtain ⟨bs, rb⟩ := dP_reads (k := 8) i2 (by simpa [okD] using hb)
  rw [dP] at rb
  have q := dP_lay ha
  have p := dPs_lay hb
  have q2 := q.2
  refine SeqAt.notIn_list_reads rb ra p.1 q.1 ?_ (Pv.here I D.Is.val)
  have := Nat.min_le_right (PyData.depthAll (dPs l)) (dP a).depth
  have := r.2.2
  unfold cLine
  omega

-- methods of texts
theorem Ev.meth {o : Expr} {name : Str} {apos pos : Pos} {args : List Expr} {id : String} {x : Str} {ds : List D} {d : D} (ho : Ev W n f ρ o (.str x)) (ha : EvL W n f ρ args ds)
    (hgm : ∀ (A : Around) (s : Shared) (t : Tok) (pl : Sem Bool) (Q : Value × List Value → Shared → Prop), Q (.builtin id, [.str x t]) s → wpAny W.M A (getMethod (.str x t) name pl) Q Fz s)
    (hc : Cl W n (.builtin id) (.str x :: ds) d)
    (hbase : attributeBase o name f.env (eval o f.env) = eval o f.env := by rfl) (hline : (apos.endLine == pos.line) = true := by rfl)
    (hfew : methodCallForm (args.length + ([] : List Keyword).length) (backTo pos (starEach args f.env)) (backToKw pos (keywordEach [] f.env)) = true := by rfl)
    (hs : (backTo pos (starEach args f.env)).any (·.1) = false := by rfl) : Ev W n f ρ (.Call (.Attribute o name apos) args [] pos) d := by
  intro A r s μ I F
  rw [arm_eval_Call, hbase]
  refine wpAny_bind (ho.use r I F fun v s1 k1 I1 F1 i1 => wpAny_bind (wpAny_standAt ?_))
  obtain ⟨t, rfl⟩ := D.Is.str_iff.mp i1
  unfold methodCall calleeOf methodCallPos
  rw [hfew]
  simp only [Bool.not_true, Bool.false_or, if_true]
  refine wpAny_bind (wpAny_holding (hgm A s1 t _ _ ?_))
  rw [if_pos hline]
  refine wpAny_bind (wpAny_pure ?_)
  refine callWith_of (P := Inv W) (by rw [hs]; rfl) Kept.builtin (evalArgs_of hs ?_)
  refine wpAny_mono (ha A r pos s1 μ I1 F1) (fun vs s2 p => ⟨p.2.1, ?_⟩) fun _ _ z => z
  exact wpAny_mono (hc A r s2 _ (.str x t :: vs) p.2.1 (F1.step I1 p.1).yk (.cons D.Is.str p.2.2)) (fun v s3 q => Pv.trans (k1.trans0 p.1) q) fun _ _ z => z

theorem Cl.rstrip {x : Str} (hsz : x.length ≤ 1000) : Cl W n (.builtin "str.rstrip") [.str x] (.str (Txt.rstrip x)) := by
  intro A r s Y vs I y il
  simp only [D.IsL, D.Is] at il
  obtain ⟨v, r', rfl, ⟨t, rfl⟩, rfl⟩ := il
  exact SC.rstrip (fun t' k => Pv.tk _ I D.Is.str) (by unfold sizeLine; omega)
theorem Cl.partition {x y : Str} (V : W.Ok) (hsz : x.length ≤ 1000) (hy : (y.length == 0) = false) : Cl W n (.builtin "str.partition") [.str x, .str y] (.tup [.str (Txt.partition x y).1, .str (Txt.partition x y).2.1, .str (Txt.partition x y).2.2]) := by
  intro A r s Y vs I yk il
  simp only [D.IsL, D.Is] at il
  obtain ⟨v, r', rfl, ⟨t, rfl⟩, v2, r2, rfl, ⟨u, rfl⟩, rfl⟩ := il
  have key : ∀ ta tb tc k, Pv W Y s (.tup [.str (Txt.partition x y).1, .str (Txt.partition x y).2.1, .str (Txt.partition x y).2.2]) (.ref s.heap.objs.size)
      { s with heap := s.heap.push { cls := .type "tuple", data := .seq [.str (Txt.partition x y).1 ta, .str (Txt.partition x y).2.1 tb, .str (Txt.partition x y).2.2 tc].toArray }, toks := k } := fun ta tb tc k => by
    refine ⟨Kq.kp (.push _ _) fun _ _ z => z, I.push V _, ?_⟩
    simp only [D.Is]
    exact ⟨_, _, rfl, yk.av V I (Nat.le_refl _), ⟨_, Heap.get?_push_size _ rfl, rfl, 0, rfl⟩, .cons D.Is.str (.cons D.Is.str (.cons D.Is.str .nil))⟩
  refine call_meets PySem.F.slot_str_partition (typeIs_str _ _ _) PySem.F.entry_str_partition (PySem.F.args_str_partition_2 _ _) (meets_str_partition x y t u hy (by unfold sizeLine; omega)) ?_
  have h' := key
  unfold Txt.partition at h' ⊢
  revert h'
  cases Builtin.Str.occurrences x y 0 x.length 1 with
  | nil => intro h'; exact h' _ _ _ _
  | cons i r => intro h'; exact h' _ _ _ _
theorem Cl.join {x : Str} {l : List Str} (hok : JoinOk x l = true) : Cl W n (.builtin "str.join") [.str x, .lst (l.map D.str)] (.str (Txt.join x l)) := by
  intro A r s Y vs I yk il
  simp only [D.IsL, D.Is] at il
  obtain ⟨v, r', rfl, ⟨t, rfl⟩, v2, r2, rfl, ⟨a, ws, rfl, av, hl, jl⟩, rfl⟩ := il
  have strsOf : ∀ (l : List Str) (ws : List Value), D.IsL Y s.heap (l.map D.str) ws → ∃ p : List (Str × Tok), ws = strValues p ∧ p.map (·.1) = l := by
    intro l
    induction l with
    | nil => intro ws h; simp only [List.map_nil, D.IsL] at h; subst h; exact ⟨[], rfl, rfl⟩
    | cons x l ih =>
      intro ws h
      simp only [List.map_cons, D.IsL, D.Is] at h
      obtain ⟨v, r, rfl, ⟨t, rfl⟩, hr⟩ := h
      obtain ⟨p, rfl, rfl⟩ := ih r hr
      exact ⟨(x, t) :: p, rfl, rfl⟩
  obtain ⟨p, rfl, hp⟩ := strsOf l ws jl
  exact SC.join hl hp hok fun t' k => Pv.tk _ I D.Is.str
end
end Mine
end
section -- S10b
open PySem PySem.W PyProof.Rows PySem.Calls PySem.Spec
set_option Elab.async false
set_option maxRecDepth 100000
set_option linter.unusedVariables false
set_option autoImplicit false
namespace Mine
section
variable {W : Wd} {f : Fd} {ρ ρ' : List Vr} {μ : Mu} {n : Nat}
theorem Cl.format1 {a : Int} (h0 : 0 ≤ a) (h1 : a < 10000000000) : Cl W n (.builtin "str.format") [.str "{}", .int a] (.str (num a)) := by
  intro A r s Y vs I yk il
  simp only [D.IsL, D.Is] at il
  obtain ⟨v, r', rfl, ⟨t, rfl⟩, v2, r2, rfl, ⟨u, rfl⟩, rfl⟩ := il
  refine' KFm.call_k ?kfmF ?kfmg ?kfmm ?_
  case kfmF => kfm_eq
  case kfmg => kfm_args
  case kfmm => kfm_run
  intro t' k
  exact Pv.tk _ I D.Is.str
set_option maxHeartbeats 400000 in
theorem Cl.format2 {a b : Int} (h0 : 0 ≤ a) (h1 : a < 10000000000) (h2 : 0 ≤ b) (h3 : b < 10000000000) : Cl W n (.builtin "str.format") [.str "{},{}", .int a, .int b] (.str (num a ++ Str.ofString "," ++ num b)) := by
  intro A r s Y vs I yk il
  simp only [D.IsL, D.Is] at il
  obtain ⟨v, r', rfl, ⟨t, rfl⟩, v2, r2, rfl, ⟨u, rfl⟩, v3, r3, rfl, ⟨u3, rfl⟩, rfl⟩ := il
  refine' KFm.call_k ?kfmF ?kfmg ?kfmm ?_
  case kfmF => kfm_eq
  case kfmg => exact KFm.args_3 _ _ _
  case kfmm => kfm_run
  intro t' k
  exact Pv.tk _ I D.Is.str
end
end Mine
end
section -- S11
open PySem PySem.W PyProof.Rows PySem.Calls PySem.Spec
set_option Elab.async false
set_option maxRecDepth 100000
set_option linter.unusedVariables false
set_option autoImplicit false
namespace Mine
section
variable {W : Wd} {f : Fd} {ρ : List Vr} {μ : Mu} {n : Nat}
/-- into the frame of a called def; the arguments' values are told by ds -/
theorem fnGo {A : Around} {s : Shared} {Y : Addr → Prop} {args : Args} {vs : List Value} {R : Result → Shared → Prop} {a : Addr} {fd : FuncData} {body : List Stmt} {nm : List Str} {ds : List D} {k : Nat} (V : W.Ok) (hroom : A.depth < recursionLimit) (I : Inv W s.heap) (y : Yk W Y s.heap) (il : D.IsL Y s.heap ds vs)
    (ho : ∃ o, s.heap.get? a = some o ∧ o.data = .func fd) (hcd : s.heap.CodeRec fd.code fd.qualname)
    (hbody : fd.body = .stmts body) (hclo : fd.closure = []) (hgl : fd.globals = mainGlobals) (hbl : fd.builtins = builtinsNs)
    (hbind : BindsTo s fd args (nm.zip vs))
    (hnod : nm.Nodup) (hlen : ds.length ≤ nm.length) (hkinds : kindsOk fd.scope nm = true)
    (hgo : ∀ s1 μ0, Kp No s s1 → Inv W s1.heap → (∀ b, μ0.Z b → s.heap.objs.size ≤ b) → Fm W (fdOf fd a nm Y s.heap.objs.size) (vals ds k) μ0 s1.heap →
      wpAny W.M (A.deeper (callEnvC fd s.heap.objs.size a)) (execs body (callEnvC fd s.heap.objs.size a)) (fun fl s' => R (.ok (.ret (match fl with | .ret v => v | _ => .none))) s') Fz s1)
    (hco : fd.scope.isCoroutine = false := by rfl) (hgen : fd.scope.isGenerator = false := by rfl) (hkf : fd.scope.kind = .function := by rfl) : codeAny W.M A (.call (.ref a) args) R s := by
  obtain ⟨o, ho, hd⟩ := ho
  have hk : ∀ x ∈ nm, ∀ q, fd.scope.names.lookup x = some .local ∨ (fd.scope.names.lookup x = some .cell ∧ ((cellsFrom q fd.scope.names []).lookup x).isSome = true) := fun x hx q => by
    have := List.all_eq_true.mp hkinds x hx
    simp only [Bool.or_eq_true, Bool.and_eq_true, beq_iff_eq] at this
    rcases this with e | ⟨e, e'⟩
    · exact .inl e
    · exact .inr ⟨e, cellsFrom_any _ 0 q [] [] x id e'⟩
  have hzip : ∀ x ∈ nm.zip vs, x.1 ∈ nm := fun x hx => (List.of_mem_zip hx).1
  have hvl := il.length
  refine codeAny_call_function hroom ho hd hco hgen hbody hcd (hbind _ _ _ _ ?_)
  rw [hclo]
  refine wpAny_newFunctionEnv_cells hkf (fun x hx => hk x.1 (hzip x hx) _) fun env he s1 x => ?_
  subst he
  refine ⟨I.lim.keeps x.toInCall.keep, codeAny_func ?_⟩
  change InCallC s (callEnvC fd s.heap.objs.size a).locals (bindL (callEnvC fd s.heap.objs.size a).kindOf (nm.zip vs) fun _ => none) (callEnvC fd s.heap.objs.size a).cells (bindC (callEnvC fd s.heap.objs.size a).kindOf (nm.zip vs) fun _ => none) s1 at x
  -- the new frame
  have keep := x.toInCall.keep
  have hLs : s.heap.objs.size ≤ (callEnvC fd s.heap.objs.size a).locals := x.toInCall.fresh
  have hsz : s.heap.objs.size ≤ s1.heap.objs.size := Nat.le_of_lt (Nat.lt_of_le_of_lt hLs x.toInCall.ns.lt)
  have kq : Kq No s.heap s1.heap := .all keep hsz
  obtain ⟨h1, tk1, rfl, _⟩ := x.done
  have I1 : Inv W h1 := I.step V kq fun _ z => z.elim
  have k1 : Kp No s { s with heap := h1, toks := tk1 } := kq.kp fun _ _ z => z
  have ks : (nm.zip vs).map (·.1) = nm.take vs.length := zip_fst nm vs (by omega)
  have hnz : ((nm.zip vs).map (·.1)).Nodup := by rw [ks]; exact hnod.sublist (List.take_sublist _ _)
  let μ0 : Mu := ⟨fun b => b = s.heap.objs.size ∨ ∃ q, (callEnvC fd s.heap.objs.size a).cells.lookup q = some b, fun _ => 0⟩
  have hZ : ∀ b, μ0.Z b → s.heap.objs.size ≤ b ∧ b < h1.objs.size := fun b z => by
    rcases z with rfl | ⟨q, hq⟩
    · exact ⟨Nat.le_refl _, x.toInCall.ns.lt⟩
    · exact ⟨Nat.le_of_lt (Nat.lt_of_le_of_lt hLs (x.above q b (mem_of_lookup hq))), (x.cell q b hq).lt⟩
  have il1 : D.IsL Y h1 ds vs := il.step k1
  have mv : Mv Y (Yo (fdOf fd a nm Y s.heap.objs.size) μ0) s.heap h1 := ⟨fun b z => z.elim .inl fun z => .inr (hZ b z).1, fun b o e _ _ => keep b o e⟩
  have F0 : Fm W (fdOf fd a nm Y s.heap.objs.size) (vals ds k) μ0 h1 := by
    refine ⟨hkf, hgl, hbl, hnod, ⟨_, x.toInCall.ns⟩, .inl rfl, fun _ z hz hzk => ?_, fun _ => x.apart, fun i z d' hi hd' => ?_, fun i z l hi hl => (vals_box hl).elim, fun b z => ?_, fun b z => (hZ b z).1, I.size⟩
    · rcases hk z hz (s.heap.objs.size + 1) with e | ⟨e, e'⟩
      · have : fd.scope.names.lookup z = some .cell := hzk
        rw [e] at this; cases this
      · obtain ⟨c, hc⟩ := Option.isSome_iff_exists.mp e'
        exact ⟨c, _, hc, x.cell z c hc, .inr ⟨z, hc⟩⟩
    · have hd2 := vals_get hd'
      obtain ⟨v, hv, iv⟩ := il.get i hd2
      have hmem : (z, v) ∈ nm.zip vs := List.mem_of_getElem? (i := i) (by rw [List.getElem?_zip_eq_some]; exact ⟨hi, hv⟩)
      refine ⟨v, ?_, iv.move mv⟩
      rcases hk z (List.mem_of_getElem? hi) (s.heap.objs.size + 1) with e | ⟨e, e'⟩
      · exact .inl ⟨e, _, x.toInCall.ns, bindL_has hnz hmem e⟩
      · obtain ⟨c, hc⟩ := Option.isSome_iff_exists.mp e'
        refine .inr ⟨.inl e, c, hc, ?_⟩
        have := x.cell z c hc
        rw [bindC_has hnz hmem (by show fd.scope.names.lookup z ≠ _; rw [e]; simp)] at this
        exact this
    · rcases z with z | z
      · exact ⟨Nat.lt_of_lt_of_le (y b z).1 hsz, (y b z).2⟩
      · exact ⟨(hZ b z).2, Nat.le_trans I.size (hZ b z).1⟩
  exact wpAny_mono (hgo _ μ0 k1 I1 (fun b z => (hZ b z).1) F0) (fun _ _ p => p) fun _ _ z => z.elim

-- where at least one token stands
noncomputable def Ev1 (W : Wd) (n : Nat) (f : Fd) (ρ : List Vr) (e : Expr) (d : D) : Prop :=
  ∀ A, Rm n A → ∀ s μ, 1 ≤ s.toks → Inv W s.heap → Fm W f ρ μ s.heap → wpAny W.M A (eval e f.env) (Po W f μ s d) Fz s
noncomputable def Ts1 (W : Wd) (n : Nat) (f : Fd) (ρ : List Vr) (e : Expr) (b : Bool) : Prop :=
  ∀ A, Rm n A → ∀ s μ, 1 ≤ s.toks → Inv W s.heap → Fm W f ρ μ s.heap → wpAny W.M A (isTrue e f.env (eval e f.env)) (fun c s' => c = b ∧ Kp No s s' ∧ Inv W s'.heap) Fz s
noncomputable def Ex1 (W : Wd) (n : Nat) (f : Fd) (ρ : List Vr) (st : Stmt) (ρ' : List Vr) : Prop :=
  ∀ A, Rm n A → ∀ s μ, 1 ≤ s.toks → Inv W s.heap → Fm W f ρ μ s.heap → wpAny W.M A (exec st f.env) (fun fl s' => fl = .next ∧ ∃ μ', Af W f μ s ρ' μ' s') Fz s
noncomputable def Rt1 (W : Wd) (n : Nat) (f : Fd) (ρ : List Vr) (sts : List Stmt) (d : D) : Prop :=
  ∀ A, Rm n A → ∀ s μ, 1 ≤ s.toks → Inv W s.heap → Fm W f ρ μ s.heap → wpAny W.M A (execs sts f.env) (fun fl s' => ∃ v, fl = .ret v ∧ Kp μ.Z s s' ∧ Inv W s'.heap ∧ d.Is f.X s'.heap v) Fz s
theorem Ev.one {e : Expr} {d : D} (h : Ev W n f ρ e d) : Ev1 W n f ρ e d := fun A r s μ _ I F => h A r s μ I F
theorem Ex.one {e : Stmt} {ρ' : List Vr} (h : Ex W n f ρ e ρ') : Ex1 W n f ρ e ρ' := fun A r s μ _ I F => h A r s μ I F
theorem Rt.one {e : List Stmt} {d : D} (h : Rt W n f ρ e d) : Rt1 W n f ρ e d := fun A r s μ _ I F => h A r s μ I F
theorem Ex1.assign {x : Str} {px : Pos} {e : Expr} {pos : Pos} {d : D} (i : Nat) (V : W.Ok) (he : Ev1 W n f ρ e d) (hx : f.nm[i]? = some x) (hk : f.env.kindOf x = some .local ∨ f.env.kindOf x = some .cell ∧ f.st = true)
    (hs : swapsWith e (some (.Name x px)) pos.line f.env = pure false := by rfl) : Ex1 W n f ρ (.Assign [.Name x px] e pos) (ρ.set i (.val d)) := by
  intro A r s μ tk I F
  refine wpAny_Assign_Name (hs := hs) (wpAny_mono (he A r s μ tk I F) (fun v s1 p => ?_) fun _ _ z => z)
  obtain ⟨k1, I1, i1⟩ := p
  exact sto V I1 (F.step I k1) hx hk i1 fun s2 k2 I2 F2 => ⟨rfl, μ, Af.pre k1 (.of k2 I2 F2)⟩
theorem Rt1.cons {st : Stmt} {sts : List Stmt} {ρ' : List Vr} {d : D} (h : Ex1 W n f ρ st ρ') (hs : Rt1 W n f ρ' sts d) : Rt1 W n f ρ (st :: sts) d := by
  intro A r s μ tk I F
  refine wpAny_execs_cons (wpAny_mono (wpAny_toks_of (n := 1) tk (h A r s μ tk I F)) (fun fl s1 p => ?_) fun _ _ z => z.2)
  obtain ⟨tk1, rfl, μ1, a1⟩ := p
  refine wpAny_mono (hs A r s1 μ1 tk1 a1.inv a1.fm) (fun fl s2 p => ?_) fun _ _ z => z
  obtain ⟨v, rfl, k, I', i⟩ := p
  exact ⟨v, rfl, a1.kp.trans k a1.grow, I', i⟩
theorem Rt1.ret {e : Expr} {pos : Pos} {sts : List Stmt} {d : D} (h : Ev1 W n f ρ e d) : Rt1 W n f ρ (.Return (some e) pos :: sts) d := by
  intro A r s μ tk I F
  refine wpAny_execs_cons (wpAny_Return_some (wpAny_mono (h A r s μ tk I F) (fun v s1 p => ?_) fun _ _ z => z))
  exact ⟨v, rfl, p.1.up, p.2.1, p.2.2.drop fun _ z => .inl z⟩
theorem Ts1.cmp {e1 e2 : Expr} {op pos} {d1 d2 : D} {b : Bool} (h1 : Ev1 W n f ρ e1 d1) (h2 : Ev W n f ρ e2 d2) (h : F2 W n (compareOp op) d1 d2 (D.bool b)) (hm : behindInMarks op e2 = false := by with_unfolding_all rfl) : Ts1 W n f ρ (.Compare e1 [op] [e2] pos) b := by
  intro A r s μ tk I F
  refine wpAny_isTrue_Compare1 (hm := hm) (wpAny_mono (h1 A r s μ tk I F) (fun v1 s1 p => ?_) fun _ _ z => z)
  obtain ⟨k1, I1, i1⟩ := p
  refine h2.use r I1 (F.step I k1) fun v2 s2 k2 I2 F2 i2 => ?_
  refine wpAny_mono (h A r s2 _ v1 v2 I2 F2.yk (i1.step k2) i2) (fun v s' p => ?_) fun _ _ z => z
  obtain ⟨k, I', i⟩ := p
  obtain rfl := D.Is.val_iff.mp i
  exact wpAny_truthy_bool ⟨rfl, (k1.trans0 k2).trans0 k, I'⟩
theorem Ev1.ife {t e1 e2 : Expr} {pos} {b : Bool} {d : D} (ht : Ts1 W n f ρ t b) (h1 : b = true → Ev W n f ρ e1 d) (h2 : b = false → Ev W n f ρ e2 d) : Ev1 W n f ρ (.IfExp t e1 e2 pos) d := by
  intro A r s μ tk I F
  refine wpAny_IfExp (wpAny_mono (ht A r s μ tk I F) (fun c s1 p => ?_) fun _ _ z => z)
  obtain ⟨rfl, k1, I1⟩ := p
  cases c with
  | true => exact (h1 rfl).use r I1 (F.step I k1) fun v s' k I' F' i => ⟨k1.trans0 k, I', i⟩
  | false => exact (h2 rfl).use r I1 (F.step I k1) fun v s' k I' F' i => ⟨k1.trans0 k, I', i⟩
/-- o.replace('…', '…') with two written texts -/
theorem Ev1.replace {o : Expr} {apos pos : Pos} {x y z : Str} {k1 k2 : Nat} {p1 p2 : Pos} (ho : Ev W n f ρ o (.str x)) (hyz : (y == z) = false) (hx : x.length ≤ 1000) (hz : z.length ≤ 14)
    (hbase : attributeBase o "replace" f.env (eval o f.env) = eval o f.env := by rfl) (hline : (apos.endLine == pos.line) = true := by rfl)
    (hfew : methodCallForm (2 + ([] : List Keyword).length) (backTo pos (starEach [.Constant (.str y) k1 p1, .Constant (.str z) k2 p2] f.env)) (backToKw pos (keywordEach [] f.env)) = true := by rfl)
    (hs : (backTo pos (starEach [.Constant (.str y) k1 p1, .Constant (.str z) k2 p2] f.env)).any (·.1) = false := by rfl) : Ev1 W n f ρ (.Call (.Attribute o "replace" apos) [.Constant (.str y) k1 p1, .Constant (.str z) k2 p2] [] pos) (.str (Txt.replace x y z)) := by
  intro A r s μ tk I F
  rw [arm_eval_Call, hbase]
  refine wpAny_bind (wpAny_mono (wpAny_toks_of (n := 1) tk (ho A r s μ I F)) (fun v s1 p => wpAny_bind (wpAny_standAt ?_)) fun _ _ z => z.2)
  obtain ⟨tk1, K1, I1, i1⟩ := p
  obtain ⟨t, rfl⟩ := D.Is.str_iff.mp i1
  unfold methodCall calleeOf methodCallPos
  rw [show ([Expr.Constant (.str y) k1 p1, Expr.Constant (.str z) k2 p2].length + ([] : List Keyword).length) = 2 + ([] : List Keyword).length from rfl, hfew]
  simp only [Bool.not_true, Bool.false_or, if_true]
  refine wpAny_bind (wpAny_holding (GM.replace ?_))
  rw [if_pos hline]
  refine wpAny_bind (wpAny_pure ?_)
  refine callWith_of (P := Inv W) (by rw [hs]; rfl) Kept.builtin (evalArgs_of hs ?_)
  refine wpAny_items_cons (he := rfl) (wpAny_Constant_str ?_)
  refine wpAny_items_cons (he := rfl) (wpAny_Constant_str ?_)
  refine wpAny_items_nil ⟨I1, ?_⟩
  refine SC.replaceW (by show s1.toks ≠ 0; omega) (by show s1.toks + 1 ≠ 0; omega) (by show s1.toks ≠ s1.toks + 1; omega) hyz (by omega) hz fun t' k => ?_
  exact ⟨K1.trans0 (Kp.toks s1 k), I1, D.Is.str⟩

theorem lookup_rev {x : Str} {v : Value} : ∀ {l : List (Str × Value)}, (l.map (·.1)).Nodup → (x, v) ∈ l → l.reverse.lookup x = some v := by
  have app : ∀ (a b : List (Str × Value)) (u : Value), a.lookup x = some u → (a ++ b).lookup x = some u := by
    intro a
    induction a with
    | nil => intro b u h; cases h
    | cons q a ih =>
      intro b u h
      obtain ⟨y, w⟩ := q
      rw [List.cons_append, List.lookup_cons]
      rw [List.lookup_cons] at h
      split at h
      · exact h
      · exact ih b u h
  have app2 : ∀ (a b : List (Str × Value)), x ∉ a.map (·.1) → (a ++ b).lookup x = b.lookup x := by
    intro a
    induction a with
    | nil => intro b h; rfl
    | cons q a ih =>
      intro b h
      obtain ⟨y, w⟩ := q
      rw [List.cons_append, List.lookup_cons]
      have : (x == y) = false := beq_eq_false_iff_ne.mpr fun e => h (by simp [e])
      rw [this]
      exact ih b fun e => h (by simp [e])
  intro l
  induction l with
  | nil => intro _ h; cases h
  | cons q l ih =>
    intro hn hm
    obtain ⟨y, w⟩ := q
    rw [List.map_cons, List.nodup_cons] at hn
    rw [List.reverse_cons]
    rcases List.mem_cons.mp hm with e | hm
    · cases e
      rw [app2 _ _ (by rw [List.map_reverse]; simpa using hn.1)]
      simp
    · exact app _ _ _ (ih hn.2 hm)

/-- a def without cells, whose frame begins behind a token -/
theorem Cl.fn1 {a : Addr} {fd : FuncData} {body : List Stmt} {nm : List Str} {ds : List D} {d : D} {k : Nat} (V : W.Ok)
    (ho : ∀ h, Inv W h → ∃ o, h.get? a = some o ∧ o.data = .func fd) (hcd : ∀ h, Inv W h → h.CodeRec fd.code fd.qualname)
    (hbody : fd.body = .stmts body) (hclo : fd.closure = []) (hgl : fd.globals = mainGlobals) (hbl : fd.builtins = builtinsNs)
    (hbind : ∀ vs : List Value, vs.length = ds.length → bindArgs fd ⟨vs, []⟩ = pure (nm.zip vs))
    (hnod : nm.Nodup) (hlen : ds.length ≤ nm.length) (h1 : 1 ≤ ds.length) (hcell : ∀ x ∈ fd.scope.names, x.2 ≠ .cell) (hloc : ∀ x ∈ nm, fd.scope.names.lookup x = some .local)
    (hrt : ∀ X L, Rt1 W n (fdOf fd a nm X L) (vals ds k) body d)
    (hc0 : ∀ L, cellsFrom L fd.scope.names [] = [] := by intro _; rfl)
    (hco : fd.scope.isCoroutine = false := by rfl) (hgen : fd.scope.isGenerator = false := by rfl) (hkf : fd.scope.kind = .function := by rfl) : Cl W (n + 1) (.ref a) ds d := by
  intro A r s Y vs I y il
  obtain ⟨o, ho, hd⟩ := ho _ I
  have hvl := il.length
  have hzip : ∀ x ∈ nm.zip vs, x.1 ∈ nm := fun x hx => (List.of_mem_zip hx).1
  have hzl : (nm.zip vs).length = ds.length := by rw [List.length_zip, hvl]; omega
  refine wpAny_call (codeAny_call_def r.depth ho hd I.lim (hcd _ I) hbody (.of_eq (hbind vs hvl)) hcell (fun x hx => hloc x.1 (hzip x hx)) (fun h1' hns keep => ?_) hco hgen hkf)
  have hz : s.heap.objs.size ≤ h1'.objs.size := Nat.le_of_lt hns.lt
  have kq : Kq No s.heap h1' := .all keep hz
  have I1 : Inv W h1' := I.step V kq fun _ z => z.elim
  have k1 : Kp No s { s with heap := h1', toks := s.toks + (nm.zip vs).length } := kq.kp fun _ _ z => z
  have ks : (nm.zip vs).map (·.1) = nm.take vs.length := zip_fst nm vs (by omega)
  have hnz : ((nm.zip vs).map (·.1)).Nodup := by rw [ks]; exact hnod.sublist (List.take_sublist _ _)
  let μ0 : Mu := ⟨fun b => b = s.heap.objs.size, fun _ => 0⟩
  have il1 : D.IsL Y h1' ds vs := il.step k1
  have mv : Mv Y (Yo (fdOf fd a nm Y s.heap.objs.size) μ0) s.heap h1' := ⟨fun b z => z.elim .inl fun z => .inr (Nat.le_of_eq z.symm), fun b o e _ _ => keep b o e⟩
  have envEq : callEnvC fd s.heap.objs.size a = callEnv fd s.heap.objs.size a := by
    unfold callEnvC callEnv; rw [hc0, hclo]
  have F0 : Fm W (fdOf fd a nm Y s.heap.objs.size) (vals ds k) μ0 h1' := by
    refine ⟨hkf, hgl, hbl, hnod, ⟨_, hns⟩, rfl, fun _ z hz' hzk => ?_, fun _ => ?_, fun i z d' hi hd' => ?_, fun i z l hi hl => (vals_box hl).elim, fun b z => ?_, fun b z => Nat.le_of_eq (Eq.symm z), I.size⟩
    · have : fd.scope.names.lookup z = some .cell := hzk
      rw [hloc z hz'] at this; cases this
    · show (cellsFrom (s.heap.objs.size + 1) fd.scope.names []).Pairwise _
      rw [hc0]; exact List.Pairwise.nil
    · have hd2 := vals_get hd'
      obtain ⟨v, hv, iv⟩ := il.get i hd2
      have hmem : (z, v) ∈ nm.zip vs := List.mem_of_getElem? (i := i) (by rw [List.getElem?_zip_eq_some]; exact ⟨hi, hv⟩)
      refine ⟨v, .inl ⟨hloc z (List.mem_of_getElem? hi), _, hns, ?_⟩, iv.move mv⟩
      exact lookup_rev hnz hmem
    · rcases z with z | z
      · exact ⟨Nat.lt_of_lt_of_le (y b z).1 hz, (y b z).2⟩
      · rw [show b = _ from z]; exact ⟨hns.lt, I.size⟩
  have hr := hrt Y s.heap.objs.size (A.deeper (callEnv fd s.heap.objs.size a)) (r.deeper _) { s with heap := h1', toks := s.toks + (nm.zip vs).length } μ0 (by show 1 ≤ s.toks + (nm.zip vs).length; omega) I1 F0
  rw [show (fdOf fd a nm Y s.heap.objs.size).env = callEnv fd s.heap.objs.size a from envEq] at hr
  refine wpAny_mono hr (fun fl s' p => ?_) fun _ _ z => z.elim
  obtain ⟨v, rfl, kp, I', i'⟩ := p
  exact ⟨k1.trans kp (fun b z => .inr (Nat.le_of_eq z.symm)), I', i'⟩
end
end Mine
end
section -- S12
open PySem PySem.W PyProof.Rows PySem.Calls PySem.Spec
set_option Elab.async false
set_option maxRecDepth 100000
set_option linter.unusedVariables false
set_option autoImplicit false
namespace Mine
section
variable {W : Wd} {f : Fd} {ρ ρ' : List Vr} {μ : Mu} {n : Nat}
theorem F2.iaddI {a b : Int} : F2 W n (inplaceOp .Add) (.int a) (.int b) (.int (a + b)) := by
  intro A r s Y v1 v2 I y i1 i2
  obtain ⟨t, rfl⟩ := D.Is.int_iff.mp i1
  obtain ⟨u, rfl⟩ := D.Is.int_iff.mp i2
  exact PySem.P.iadd_int (Pv.tk _ I D.Is.int)
theorem F2.isubI {a b : Int} : F2 W n (inplaceOp .Sub) (.int a) (.int b) (.int (a - b)) := by
  intro A r s Y v1 v2 I y i1 i2
  obtain ⟨t, rfl⟩ := D.Is.int_iff.mp i1
  obtain ⟨u, rfl⟩ := D.Is.int_iff.mp i2
  exact PySem.P.isub_int (Pv.tk _ I D.Is.int)
/-- a frame's name is read -/
theorem ldName {x : Str} {d : D} {A : Around} {s : Shared} {Q : Value → Shared → Prop} (F : Fm W f ρ μ s.heap) (i : Nat) (hi : f.nm[i]? = some x) (hd : ρ[i]? = some (Vr.val d)) (hb2 : (x == ("__classdict__" : Str)) = false)
    (h : ∀ v, d.Is (Yo f μ) s.heap v → Q v s) : wpAny W.M A (loadName f.env x) Q Fz s := by
  obtain ⟨v, H, id⟩ := F.val i x d hi hd
  rcases H with ⟨a, m, hn, e⟩ | ⟨a | a, c, l, hc⟩
  · exact wpAny_loadName_local F.kind a hn e (h v id)
  · exact wpAny_loadName_cell F.kind a l hc (h v id)
  · exact wpAny_loadName_free F.kind a l hc (h v id) hb2
theorem Ex.aug {x : Str} {px : Pos} {e : Expr} {pos : Pos} {op : Operator} {d1 d2 d : D} (i : Nat) (V : W.Ok) (he : Ev W n f ρ e d2) (hx : f.nm[i]? = some x) (hd : ρ[i]? = some (Vr.val d1)) (ho : F2 W n (inplaceOp op) d1 d2 d)
    (hk : f.env.kindOf x = some .local ∨ f.env.kindOf x = some .cell ∧ f.st = true) (hb2 : (x == ("__classdict__" : Str)) = false := by decide) : Ex W n f ρ (.AugAssign (.Name x px) op e pos) (ρ.set i (.val d)) := by
  intro A r s μ I F
  refine wpAny_AugAssign_Name (ldName F i hx hd hb2 fun v1 i1 => he.use r I F fun v2 s2 k2 I2 F2 i2 => ?_)
  refine wpAny_mono (ho A r s2 _ v1 v2 I2 F2.yk (i1.step k2) i2) (fun v s3 p => ?_) fun _ _ z => z
  obtain ⟨k3, I3, i3⟩ := p
  exact sto V I3 (F2.step I2 k3) hx hk i3 fun s4 k4 I4 F4 => ⟨rfl, μ, Af.pre (k2.trans0 k3) (.of k4 I4 F4)⟩
theorem Cl.strInt {a : Int} (h : a.natAbs.log2 < 1920) : Cl W n (.type "str") [.int a] (.str (num a)) := by
  intro A r s Y vs I y il
  simp only [D.IsL, D.Is] at il
  obtain ⟨v, r', rfl, ⟨t, rfl⟩, rfl⟩ := il
  exact P.str_of_int h (Pv.tk _ I D.Is.str)
theorem Cl.intNum {a : Int} (h0 : 0 ≤ a) (h1 : a < 10000000000) : Cl W n (.type "int") [.str (num a)] (.int a) := by
  intro A r s Y vs I y il
  simp only [D.IsL, D.Is] at il
  obtain ⟨v, r', rfl, ⟨t, rfl⟩, rfl⟩ := il
  exact KIN.call_num h0 (by omega) (Pv.tk _ I D.Is.int)
theorem Cl.lenS {x : Str} (h : x.length ≤ 1000) : Cl W n (.builtin "len") [.str x] (.int x.length) := by
  intro A r s Y vs I y il
  simp only [D.IsL, D.Is] at il
  obtain ⟨v, r', rfl, ⟨t, rfl⟩, rfl⟩ := il
  exact P.len_str (by omega) (Pv.tk _ I D.Is.int)
theorem Cl.lenL {l : List D} (h : l.length ≤ 1000000) : Cl W n (.builtin "len") [.lst l] (.int l.length) := by
  intro A r s Y vs I y il
  simp only [D.IsL, D.Is] at il
  obtain ⟨v, r', rfl, ⟨a, ws, rfl, av, hl, jl⟩, rfl⟩ := il
  have e : ws.toArray.size = l.length := by simp [jl.length]
  refine call_len_list hl (by rw [e]; omega) ?_
  rw [e]
  exact Pv.tk _ I D.Is.int
theorem Cl.isStr {x : Str} : Cl W n (.builtin "isinstance") [.str x, .val (.type "str")] (D.bool true) := by
  intro A r s Y vs I y il
  simp only [D.IsL, D.Is] at il
  obtain ⟨v, r', rfl, ⟨t, rfl⟩, v2, r2, rfl, rfl, rfl⟩ := il
  exact call_isinstance_yes (Tx := "str") (typeIs_str _ _ _) (by kernel_rfl) (by rw [isSubtype_type]; kernel_rfl) (Pv.here I D.Is.val)

-- what is known of a def of the text
theorem fnAt {a : Addr} {o : Obj} {fd : FuncData} (e : W.K.lookup a = some o) (hd : o.data = .func fd) : ∀ h, Inv W h → ∃ o, h.get? a = some o ∧ o.data = .func fd := fun h I => ⟨o, I.K _ _ e, hd⟩
theorem cdAt {a : Addr} {o : Obj} {c : Value} {q : Str} {vs : Array Value} {t : Tok} (hc : c = .ref a) (e : W.K.lookup a = some o) (hd : o.data = .fields vs) (hv : vs[1]? = some (.str q t)) : ∀ h, Inv W h → h.CodeRec c q := fun h I => ⟨a, o, vs, t, hc, I.K _ _ e, hd, hv⟩
noncomputable abbrev S (x : String) : Str := Str.ofString x

/-- the text of a range, as _format_range_unified writes it -/
noncomputable def uni (a b : Int) : Str := if b - a = 1 then num (a + 1) else num (if b - a = 0 then a + 1 - 1 else a + 1) ++ S "," ++ num (b - a)
theorem c_uni {a b : Int} (V : W.Ok) (h0 : 0 ≤ a) (h1 : a ≤ b) (h2 : b < 1000000) : Cl W 2 (.ref 64) [.int a, .int b] (.str (uni a b)) := by
  refine Cl.fn (nm := [S "start", S "stop", S "beginning", S "length"]) (k := 2) V (fnAt rfl rfl) (cdAt rfl rfl rfl rfl) rfl rfl rfl rfl ?_ (by decide) (by simp) (by decide +kernel) fun X L => ?_
  · intro vs h
    rcases vs with _ | ⟨v1, _ | ⟨v2, _ | _⟩⟩ <;> simp at h
    rfl
  refine Rt.cons (Ex.assign 2 V (Ev.bin (Ev.name 0 rfl rfl) Ev.int F2.addI) rfl (.inl rfl)) ?_
  refine Rt.cons (Ex.assign 3 V (Ev.bin (Ev.name 1 rfl rfl) (Ev.name 0 rfl rfl) F2.subI) rfl (.inl rfl)) ?_
  refine Rt.ife (b := b - a == 1) (Ts.cmp (Ev.name 3 rfl rfl) Ev.int F2.eqI) (fun hb => ?_) (fun hb => ⟨_, Exs.nil, ?_⟩)
  · have e : uni a b = num (a + 1) := by unfold uni; rw [if_pos (by simpa using hb)]
    rw [e]
    exact Rt.ret (by
      apply Ev.meth (id := "str.format")
      case ho => exact Ev.str
      case ha => exact EvL.cons (Ev.name 2 rfl rfl) EvL.nil
      case hgm => exact fun A s t pl Q h => KFm.method h
      case hc => exact Cl.format1 (by omega) (by omega)
      all_goals rfl)
  · have hb' : ¬ b - a = 1 := by simpa using hb
    refine Rt.cons (Ex.ife (ρ' := [.val (.int a), .val (.int b), .val (.int (if b - a = 0 then a + 1 - 1 else a + 1)), .val (.int (b - a))]) (Ts.not (Ts.ev (Ev.name 3 rfl rfl) Fb.int)) (fun hc => ?_) (fun hc => ?_)) ?_
    · have hc' : b - a = 0 := by simpa using hc
      rw [if_pos hc']
      exact Exs.cons (Ex.aug 2 V Ev.int rfl rfl F2.isubI (.inl rfl)) Exs.nil
    · have hc' : ¬ b - a = 0 := by simpa using hc
      rw [if_neg hc']
      exact Exs.nil
    · have e : uni a b = num (if b - a = 0 then a + 1 - 1 else a + 1) ++ S "," ++ num (b - a) := by unfold uni; rw [if_neg hb']
      rw [e]
      exact Rt.ret (by
        apply Ev.meth (id := "str.format")
        case ho => exact Ev.str
        case ha => exact EvL.cons (Ev.name 2 rfl rfl) (EvL.cons (Ev.name 3 rfl rfl) EvL.nil)
        case hgm => exact fun A s t pl Q h => KFm.method h
        case hc => exact Cl.format2 (by split <;> omega) (by split <;> omega) (by omega) (by omega)
        all_goals rfl)
end
end Mine
end
section -- S14
open PySem PySem.W PyProof.Rows PySem.Calls PySem.Spec
set_option Elab.async false
set_option maxRecDepth 100000
set_option linter.unusedVariables false
set_option autoImplicit false
set_option pp.maxSteps 600
namespace Mine
section
variable {M : Model} {A : Around} {R : GenEnd} {Y : Protocol} {n : Nat} {s₀ : Shared} {c : Code} {fs : List Frame} {s : Shared} {env : Env}
  {K : Flow → Sem PySem.Fin} {H : Value → Sem PySem.Fin} {gd : Bool → Bool} {lv : List Value → List Value}

theorem seg_If {test : Expr} {body orelse : List Stmt} {pos : Pos}
    (h : wpAny M (A.over c fs) (isTrue test env (eval test env)) (fun b s' => if b = true then Seg M A R Y n s₀ c ((execs body env).wrap K H gd lv) fs s' else Seg M A R Y n s₀ c ((execs orelse env).wrap K H gd lv) fs s') Fz s) :
    Seg M A R Y n s₀ c ((exec (.If test body orelse pos) env).wrap K H gd lv) fs s := by
  rw [exec_If]
  refine seg_bind_wrap (wpAny_standAt (seg_bind_wrap (wpAny_mono h (fun b s' hb => ?_) fun _ _ z => z.elim)))
  cases b with
  | true => rw [if_pos rfl] at hb ⊢; exact hb
  | false => rw [if_neg (by simp)] at hb ⊢; exact hb

/-- what stands above a loop's turns -/
noncomputable abbrev loopFrame (env : Env) (K : Flow → Sem PySem.Fin) (H : Value → Sem PySem.Fin) (gd : Bool → Bool) (lv : List Value → List Value) (c : Code) (p : Pos) : Frame :=
  .ret (fun r => ((match r with | .ok f => (.pure f : Sem Flow) | .error e => .raise e).onRaise fun (x : Value) => do
        if (← field x 1) == Value.none then unsupported "frame.own-activation:exception-without-traceback"
        setFlight x env.frame).wrap K H gd lv) none (gd false) (lv []) c p []
theorem seg_For {target iter : Expr} {body orelse : List Stmt} {pos : Pos}
    (h : wpAny M (A.over c fs) (eval iter env) (fun x s1 => wpAny M (A.over c fs) (pyIter x) (fun it s2 => ∀ p, Seg M A R Y n s₀ (.forLoop target it body orelse env) (M.den (.forLoop target it body orelse env)) (loopFrame env K H gd lv c p :: fs) s2) Fz s1) Fz s)
    (hs : ∀ x, foldedSetIterable iter env x = pure x := by intro _; rfl) :
    Seg M A R Y n s₀ c ((exec (.For target iter body orelse pos) env).wrap K H gd lv) fs s := by
  rw [exec_For]
  refine seg_bind_wrap (wpAny_standAt (seg_bind_wrap (wpAny_mono h (fun x s1 h1 => ?_) fun _ _ z => z.elim)))
  refine seg_bind_wrap (wpAny_of_eq (hs x) (seg_bind_wrap (wpAny_standAt (seg_bind_wrap (wpAny_holding (wpAny_mono h1 (fun it s2 h2 => ?_) fun _ _ z => z.elim))))))
  exact seg_call h2
end

section
variable {prog : Program} {w : World} {A : Around} {R : GenEnd} {Y : Protocol} {n : Nat} {s₀ : Shared} {fs : List Frame} {s : Shared} {env : Env}
noncomputable abbrev loopH (env : Env) : Value → Sem PySem.Fin := fun e => (do noteFrame e env; theTreesLotGoes e : Sem Unit).bind fun _ => .raise e
theorem seg_forLoop {target : Expr} {it : Value} {body : List Stmt}
    (h : wpAny (model prog w) (A.over (.forLoop target it body [] env) fs) (pyNext it) (fun r s1 => match r with
      | none => Seg (model prog w) A R Y n s₀ (.block [] env) ((model prog w).den (.block [] env)) fs s1
      | some v => wpAny (model prog w) (A.over (.forLoop target it body [] env) fs) (letOwnedTupleGo target it v) (fun _ s2 => wpAny (model prog w) (A.over (.forLoop target it body [] env) fs) (assign target env v) (fun _ s3 =>
          Seg (model prog w) A R Y n s₀ (.forLoop target it body [] env) ((execs body env).wrap (fun f => match f with
            | .next | .cont => .pure (.again (.forLoop target it body [] env))
            | .brk => .pure (.done .next)
            | .ret v => .pure (.done (.ret v))) (loopH env) id id) fs s3) Fz s2) Fz s1) Fz s) :
    Seg (model prog w) A R Y n s₀ (.forLoop target it body [] env) ((model prog w).den (.forLoop target it body [] env)) fs s := by
  show Seg _ A R Y n s₀ _ ((forTurn target it body [] env).onRaise (fun x => do noteFrame x env; theTreesLotGoes x)) fs s
  unfold forTurn
  rw [Sem.onRaise_eq_wrap]
  refine seg_bind_wrap (wpAny_standAt (seg_bind_wrap (wpAny_onRaise (wpAny_mono h (fun r s1 h1 => ?_) fun _ _ z => z.elim))))
  cases r with
  | none => exact seg_again rfl h1
  | some v =>
    refine seg_bind_wrap (wpAny_mono h1 (fun _ s2 h2 => ?_) fun _ _ z => z.elim)
    refine seg_bind_wrap (wpAny_mono h2 (fun _ s3 h3 => ?_) fun _ _ z => z.elim)
    rw [Sem.bind_eq_wrap', Sem.wrap_wrap]
    refine Eq.mpr (congrArg (fun t => Seg (model prog w) A R Y n s₀ (.forLoop target it body [] env) t fs s3) (Sem.wrap_congr (execs body env) id id (fun f => ?_) (fun e => ?_))) h3
    · cases f <;> rfl
    · rfl
theorem seg_block {K : Flow → Sem PySem.Fin} {H : Value → Sem PySem.Fin} {gd : Bool → Bool} {lv : List Value → List Value} {c : Code} {p : Pos}
    (h : Seg (model prog w) A R Y n s₀ c (K .next) fs s) : Seg (model prog w) A R Y n s₀ (.block [] env) ((model prog w).den (.block [] env)) (loopFrame env K H gd lv c p :: fs) s := by
  have e : (model prog w).den (.block [] env) = leafOf (.ok .next) := rfl
  rw [e]
  exact seg_leaf (.ok .next) h
end
end Mine
end
section -- S15
open PySem PySem.W PyProof.Rows PySem.Calls PySem.Spec
set_option Elab.async false
set_option maxRecDepth 100000
set_option linter.unusedVariables false
set_option autoImplicit false
set_option pp.maxSteps 600
namespace Mine

/-- what a consumer may do between two draws: it changes its own, Oc -/
structure Xc (Oc : Addr → Prop) (h h' : Heap) : Prop where
  keep : ∀ b o, h.get? b = some o → ¬ Oc b → ¬ isTab b → h'.get? b = some o
  size : h.objs.size ≤ h'.objs.size
  cell : ∀ c v, h.IsCell c v → h'.IsCell c v
/-- what a generator's statement leaves to what stands around it -/
structure Fw (Oc : Addr → Prop) (μ : Mu) (s s' : Shared) (μ' : Mu) : Prop where
  keep : ∀ b o, s.heap.get? b = some o → ¬ μ.Z b → ¬ Oc b → ¬ isTab b → s'.heap.get? b = some o
  size : s.heap.objs.size ≤ s'.heap.objs.size
  grow : ∀ a, μ'.Z a → μ.Z a ∨ s.heap.objs.size ≤ a
theorem Fw.refl (Oc : Addr → Prop) (μ : Mu) (s : Shared) : Fw Oc μ s s μ := ⟨fun _ _ e _ _ _ => e, Nat.le_refl _, fun _ z => .inl z⟩
theorem Fw.trans {Oc : Addr → Prop} {μ μ' μ'' : Mu} {s s' s'' : Shared} (a : Fw Oc μ s s' μ') (b : Fw Oc μ' s' s'' μ'') : Fw Oc μ s s'' μ'' :=
  ⟨fun x o e n1 n2 t => b.keep x o (a.keep x o e n1 n2 t) (fun z => (a.grow x z).elim n1 fun q => absurd (Heap.lt_size e) (Nat.not_lt.mpr q)) n2 t, Nat.le_trans a.size b.size,
   fun x z => (b.grow x z).elim (a.grow x) fun q => .inr (Nat.le_trans a.size q)⟩
theorem Kp.trans2 {Z Z' : Addr → Prop} {s s' s'' : Shared} (h : Kp Z s s') (h' : Kp Z' s' s'') (hz : ∀ b o, s.heap.get? b = some o → ¬ isTab b → Z' b → Z b) : Kp Z s s'' := by
  refine ⟨fun b o e n t => h'.keep b o (h.keep b o e n t) (fun z => n (hz b o e t z)) t, fun b o e c => h'.code b o (h.code b o e c) c, fun P hP ps e => ?_, Nat.le_trans h.size h'.size, fun i x e => h'.gens i x (h.gens i x e), fun i x e hi => ?_, h'.os.trans h.os⟩
  · obtain ⟨m1, e1⟩ := h.tab P hP ps e
    obtain ⟨m2, e2⟩ := h'.tab P hP _ e1
    exact ⟨m1 ++ m2, by rw [e2, Array.append_assoc]⟩
  · rcases Nat.lt_or_ge i s'.gens.size with hl | hl
    · have h1 : s'.gens[i]? = some s'.gens[i] := by simp [hl]
      have h2 := h'.gens _ _ h1
      rw [e] at h2
      cases h2
      exact h.bare _ _ h1 hi
    · exact h'.bare i x e hl
/-- a generator: where it began, its names, its object, its consumer's own -/
structure Gp where
  B0 : Nat
  L : Addr
  a : Addr
  Oc : Addr → Prop
/-- what a generator may change of what stands in h -/
noncomputable def Gp.Zw (p : Gp) (h : Heap) (b : Addr) : Prop := b = p.L ∨ (p.B0 ≤ b ∧ b ≠ p.a ∧ ¬ p.Oc b ∧ ∃ o vs, h.get? b = some o ∧ o.data = .fields vs ∧ o.cls ≠ .type "slice")
structure Gs (W : Wd) (p : Gp) (f : Fd) (ρ : List Vr) (μ : Mu) (s₀ s : Shared) : Prop where
  kp : Kp (p.Zw s₀.heap) s₀ s
  inv : Inv W s.heap
  fm : Fm W f ρ μ s.heap
  zl : ∀ b, μ.Z b → b = p.L
  new : p.B0 ≤ s.heap.objs.size ∧ p.a < s.heap.objs.size ∧ (∀ b, p.Oc b → b < s.heap.objs.size) ∧ ¬ p.Oc p.L
noncomputable def Rg (W : Wd) (p : Gp) : GenEnd := fun k s₀ r s' => r = .ok (.ret .none) ∧ k = 0 ∧ Kp (p.Zw s₀.heap) s₀ s' ∧ Inv W s'.heap
noncomputable def Yg (W : Wd) (p : Gp) (tv : Nat → Option Value) : Protocol := fun k s₀ v s' kap => tv k = some v ∧ Kp (p.Zw s₀.heap) s₀ s' ∧ Inv W s'.heap ∧ ∀ s'', Xc p.Oc s'.heap s''.heap → Inv W s''.heap → kap (.send .none) s''

noncomputable abbrev Cont (W : Wd) (p : Gp) (tv : Nat → Option Value) (f : Fd) (ρ' : List Vr) (A : Around) (n : Nat) (s : Shared) (μ : Mu) (c : Code) (fs : List Frame) (K : Flow → Sem PySem.Fin) : Prop :=
  ∀ s₀' s' μ', Gs W p f ρ' μ' s₀' s' → Fw p.Oc μ s s' μ' → Seg W.M A (Rg W p) (Yg W p tv) n s₀' c (K .next) fs s'
/-- a generator's statement: it gives out outs -/
noncomputable def GX1 (W : Wd) (m : Nat) (p : Gp) (tv : Nat → Option Value) (f : Fd) (ρ : List Vr) (st : Stmt) (outs : List Value) (ρ' : List Vr) : Prop :=
  ∀ A n s₀ s μ c fs K H gd lv, Rm m (A.over c fs) → splitAtGen fs = none → fs.any Frame.guarded = false → gd false = false → (∀ i v, outs.reverse[i]? = some v → tv (n + i) = some v) →
    Gs W p f ρ μ s₀ s → Cont W p tv f ρ' A n s μ c fs K → Seg W.M A (Rg W p) (Yg W p tv) (n + outs.length) s₀ c ((exec st f.env).wrap K H gd lv) fs s
noncomputable def GX (W : Wd) (m : Nat) (p : Gp) (tv : Nat → Option Value) (f : Fd) (ρ : List Vr) (sts : List Stmt) (outs : List Value) (ρ' : List Vr) : Prop :=
  ∀ A n s₀ s μ c fs K H gd lv, Rm m (A.over c fs) → splitAtGen fs = none → fs.any Frame.guarded = false → gd false = false → (∀ i v, outs.reverse[i]? = some v → tv (n + i) = some v) →
    Gs W p f ρ μ s₀ s → Cont W p tv f ρ' A n s μ c fs K → Seg W.M A (Rg W p) (Yg W p tv) (n + outs.length) s₀ c ((execs sts f.env).wrap K H gd lv) fs s
/-- a statement that owns nothing new -/
noncomputable def ExM (W : Wd) (n : Nat) (f : Fd) (ρ : List Vr) (st : Stmt) (ρ' : List Vr) : Prop :=
  ∀ A, Rm n A → ∀ s μ, Inv W s.heap → Fm W f ρ μ s.heap → wpAny W.M A (exec st f.env) (fun fl s' => fl = .next ∧ Af W f μ s ρ' μ s') Fz s

section
variable {W : Wd} {m : Nat} {Oc : Addr → Prop} {p : Gp} {tv : Nat → Option Value} {f : Fd} {ρ ρ' ρ'' : List Vr} {μ : Mu}

theorem Fm.cons {h h' : Heap} (F : Fm W f ρ μ h) (I : Inv W h) (hOX : ∀ b, Oc b → f.X b) (hOZ : ∀ b, Oc b → ¬ μ.Z b) (x : Xc Oc h h') : Fm W f ρ μ h' := by
  have m : Mv (Yo f μ) (Yo f μ) h h' := ⟨fun b y => .inl y, fun b o e y t => x.keep b o e (fun q => y (.inl (hOX b q))) t⟩
  have kns : ∀ m, h.Ns f.env.locals m → h'.Ns f.env.locals m := fun m hm => by
    have nt := ns_notab I hm
    obtain ⟨o, es, ep, ho, r⟩ := hm
    exact ⟨o, es, ep, x.keep _ _ ho (fun q => hOZ _ q F.nsZ) nt, r⟩
  have has : ∀ {y v}, Has f.env h y v → Has f.env h' y v := fun {y v} H => by
    rcases H with ⟨a, m, hm, e⟩ | ⟨a, c, l, hc⟩
    · exact .inl ⟨a, m, kns _ hm, e⟩
    · exact .inr ⟨a, c, l, x.cell _ _ hc⟩
  refine ⟨F.kind, F.glob, F.blt, F.nod, ?_, F.nsZ, fun st y hy hk => ?_, F.ap, fun i y d hi hd => ?_, fun i y l hi hd => ?_, fun a y => ⟨Nat.lt_of_lt_of_le (F.lt a y).1 x.size, (F.lt a y).2⟩, F.low, F.base⟩
  · obtain ⟨m, hm⟩ := F.ns; exact ⟨m, kns m hm⟩
  · obtain ⟨c, v, l, hc, z⟩ := F.cel st y hy hk
    exact ⟨c, v, l, x.cell _ _ hc, z⟩
  · obtain ⟨v, H, id⟩ := F.val i y d hi hd
    exact ⟨v, has H, id.move m⟩
  · obtain ⟨v, L, H, b, hL⟩ := F.box i y l hi hd
    exact ⟨v, L, has H, b, hL.keep fun a o z e c d => x.keep _ _ e (fun q => hOZ _ q z) (cls_notab I e (by rw [c]; simp))⟩

theorem GX.nil : GX W m p tv f ρ [] [] ρ := fun A n s₀ s μ c fs K H gd lv r h1 h2 h3 h4 g k => seg_execs_nil (k s₀ s μ g (Fw.refl _ _ _))
theorem GX.cons {st : Stmt} {sts : List Stmt} {o1 o2 : List Value} (h : GX1 W m p tv f ρ st o1 ρ') (hs : GX W m p tv f ρ' sts o2 ρ'') : GX W m p tv f ρ (st :: sts) (o1 ++ o2) ρ'' := by
  intro A n s₀ s μ c fs K H gd lv r h1 h2 h3 h4 g k
  have e : n + (o1 ++ o2).length = (n + o2.length) + o1.length := by rw [List.length_append]; omega
  rw [e]
  refine seg_execs_cons (h A (n + o2.length) s₀ s μ c fs _ H gd lv r h1 h2 h3 (fun i v hv => ?_) g fun s₀' s' μ' g' fw => ?_)
  · have := h4 (o2.length + i) v (by rw [List.reverse_append, List.getElem?_append_right (by simp)]; simpa using hv)
    rw [Nat.add_assoc]; exact this
  · refine hs A n s₀' s' μ' c fs K H gd lv r h1 h2 h3 (fun i v hv => ?_) g' fun s₀'' s'' μ'' g'' fw' => k s₀'' s'' μ'' g'' (fw.trans fw')
    refine h4 i v ?_
    have hlt : i < o2.reverse.length := (List.getElem?_eq_some_iff.mp hv).1
    rw [List.reverse_append, List.getElem?_append_left hlt]; exact hv
theorem Gs.own {s₀ s s' : Shared} {Z : Addr → Prop} (g : Gs W p f ρ μ s₀ s) (k : Kp Z s s') (hz : ∀ b, Z b → b = p.L) (I : Inv W s'.heap) (F : Fm W f ρ' μ s'.heap) : Gs W p f ρ' μ s₀ s' :=
  ⟨g.kp.trans2 k fun b o e t z => .inl (hz b z), I, F, g.zl, Nat.le_trans g.new.1 k.size, Nat.lt_of_lt_of_le g.new.2.1 k.size, fun b o => Nat.lt_of_lt_of_le (g.new.2.2.1 b o) k.size, g.new.2.2.2⟩
theorem GX1.plain {st : Stmt} (h : ExM W m f ρ st ρ') : GX1 W m p tv f ρ st [] ρ' := by
  intro A n s₀ s μ c fs K H gd lv r h1 h2 h3 h4 g k
  refine seg_wrap (wpAny_mono (h _ r s μ g.inv g.fm) (fun fl s1 q => ?_) fun _ _ z => z.elim)
  obtain ⟨rfl, a⟩ := q
  exact k s₀ s1 μ (g.own a.kp g.zl a.inv a.fm) ⟨fun b o e n1 _ t => a.kp.keep b o e n1 t, a.kp.size, a.grow⟩
theorem Gs.step {s₀ s s' : Shared} (g : Gs W p f ρ μ s₀ s) (k : Kp No s s') (I : Inv W s'.heap) : Gs W p f ρ μ s₀ s' :=
  g.own k (fun b z => z.elim) I (g.fm.step g.inv k)
theorem Fw.step {s s' : Shared} (k : Kp No s s') : Fw Oc μ s s' μ := ⟨fun b o e _ _ t => k.keep b o e (fun z => z) t, k.size, fun _ z => .inl z⟩
theorem GX1.yield {e : Expr} {yp pos : Pos} {v : Value} {d : D} (hOX : ∀ b, p.Oc b → f.X b) (h : Ev W m f ρ e (.ex v d)) (hco : f.env.scope.isCoroutine = false := by rfl) (hi : interactive f.env = false := by rfl) :
    GX1 W m p tv f ρ (.Expr (.Yield (some e) yp) pos) [v] ρ := by
  intro A n s₀ s μ c fs K H gd lv r h1 h2 h3 h4 g k
  refine seg_Expr_Yield h1 h3 h2 (wpAny_mono (h _ r s μ g.inv g.fm) (fun v' s1 q => ?_) fun _ _ z => z.elim) hco hi
  obtain ⟨k1, I1, i1⟩ := q
  simp only [D.Is] at i1
  obtain ⟨rfl, _⟩ := i1
  have g1 := g.step k1 I1
  intro kap hkap
  refine ⟨h4 0 _ (by simp), g1.kp, I1, fun s'' x I'' => hkap .none s'' ?_⟩
  have F'' := g1.fm.cons g1.inv hOX (fun b q z => g1.new.2.2.2 (g1.zl b z ▸ q)) x
  refine k s'' s'' μ ⟨Kp.refl _ _, I'', F'', g.zl, Nat.le_trans g1.new.1 x.size, Nat.lt_of_lt_of_le g1.new.2.1 x.size, fun b o => Nat.lt_of_lt_of_le (g1.new.2.2.1 b o) x.size, g1.new.2.2.2⟩ ⟨fun b o e _ n2 t => x.keep b o (k1.keep b o e (fun z => z) t) n2 t, Nat.le_trans k1.size x.size, fun _ z => .inl z⟩
theorem GX1.ife {t : Expr} {b : Bool} {body orelse : List Stmt} {pos : Pos} {outs : List Value} (ht : Ts W m f ρ t b) (h1 : b = true → GX W m p tv f ρ body outs ρ') (h2 : b = false → GX W m p tv f ρ orelse outs ρ') :
    GX1 W m p tv f ρ (.If t body orelse pos) outs ρ' := by
  intro A n s₀ s μ c fs K H gd lv r q1 q2 q3 q4 g k
  refine seg_If (wpAny_mono (ht _ r s μ g.inv g.fm) (fun c' s1 q => ?_) fun _ _ z => z)
  obtain ⟨rfl, k1, I1⟩ := q
  have kk : Cont W p tv f ρ' A n s1 μ c fs K := fun s₀' s' μ' g' fw => k s₀' s' μ' g' ((Fw.step k1).trans fw)
  cases c' with
  | true => rw [if_pos rfl]; exact h1 rfl A n s₀ s1 μ c fs K H gd lv r q1 q2 q3 q4 (g.step k1 I1) kk
  | false => rw [if_neg (by simp)]; exact h2 rfl A n s₀ s1 μ c fs K H gd lv r q1 q2 q3 q4 (g.step k1 I1) kk

theorem rm_loop {A : Around} {c : Code} {fs : List Frame} {target : Expr} {it : Value} {body : List Stmt} {env : Env} {K : Flow → Sem PySem.Fin} {H : Value → Sem PySem.Fin} {gd : Bool → Bool} {lv : List Value → List Value} {p : Pos}
    (r : Rm m (A.over c fs)) : Rm m (A.over (.forLoop target it body [] env) (loopFrame env K H gd lv c p :: fs)) := by
  obtain ⟨a, b, d⟩ := r
  refine ⟨a, ?_, ?_⟩
  · have e : (A.over (.forLoop target it body [] env) (loopFrame env K H gd lv c p :: fs)).depth = (A.over c fs).depth := by
      show A.depth + frameCount ((c, p) :: fs.map Frame.where_) + 0 = A.depth + frameCount (fs.map Frame.where_) + c.weight
      rw [frameCount_cons]; omega
    rw [e]; exact b
  · have e : (A.over (.forLoop target it body [] env) (loopFrame env K H gd lv c p :: fs)).units = (A.over c fs).units := by
      show A.units + PySem.unitsOf ((c, p) :: fs.map Frame.where_) + 0 = A.units + PySem.unitsOf (fs.map Frame.where_) + c.cUnits
      rw [unitsOf_cons]; omega
    rw [e]; exact d

theorem GX1.forIn {target iter : Expr} {body : List Stmt} {pos : Pos} {ds : List D} {oo : List (List Value)} (tp : Bool) (V : W.Ok) (hOX : ∀ b, p.Oc b → f.X b) (ρs : Nat → List Vr)
    (hi : It W m f (ρs 0) tp iter ds) (ht : ∀ d ∈ ds, TgOk tp target d) (hoo : oo.length = ds.length)
    (hb : ∀ i d o, ds[i]? = some d → oo[i]? = some o → ∀ X, (∀ b, p.Oc b → X b) → ∃ ρt, Asn W m (f.setX X) (ρs i) target d ρt ∧ GX W m p tv (f.setX X) ρt body o (ρs (i + 1)))
    (hs : ∀ x, foldedSetIterable iter f.env x = pure x := by intro _; rfl) : GX1 W m p tv f (ρs 0) (.For target iter body [] pos) oo.flatten (ρs ds.length) := by
  intro A n s₀ s μ c fs K H gd lv r q1 q2 q3 q4 g k
  refine seg_For (wpAny_mono (hi _ r s μ g.inv g.fm) (fun xv s1 h1 => wpAny_mono h1 (fun it s2 h2 => ?_) fun _ _ z => z) fun _ _ z => z) hs
  obtain ⟨Zi, k2, I2, hZi, its⟩ := h2
  intro pp
  have I := g.inv
  have F := g.fm
  let X : Addr → Prop := fun b => f.X b ∨ Zi b
  have F2 : Fm W (f.setX X) (ρs 0) μ s2.heap := F.setX I k2 (fun b y => y.imp_right fun z => (hZi b z).1) fun b y => by
    rcases y with y | y
    · exact ⟨Nat.lt_of_lt_of_le (F.lt b (.inl y)).1 k2.size, (F.lt b (.inl y)).2⟩
    · exact ⟨(hZi b y).2, Nat.le_trans I.size (hZi b y).1⟩
  have its2 : ItS (Yo (f.setX X) μ) Zi tp it ds s2.heap := its.move ⟨fun b y => .inl (by rcases y with (y | y) | y; exact .inl (.inl y); exact .inr y; exact .inl (.inr y)), fun b o e _ _ => e⟩ fun b o _ e => e
  have rL := rm_loop (target := target) (it := it) (body := body) (env := f.env) (K := K) (H := H) (gd := gd) (lv := lv) (p := pp) r
  have hZg : ∀ b, Zi b → p.B0 ≤ b ∧ b ≠ p.a ∧ ¬ p.Oc b := fun b z => ⟨Nat.le_trans g.new.1 (hZi b z).1, fun q => absurd g.new.2.1 (Nat.not_lt.mpr (q ▸ (hZi b z).1)), fun q => absurd (g.new.2.2.1 b q) (Nat.not_lt.mpr (hZi b z).1)⟩
  have hOX' : ∀ b, p.Oc b → X b := fun b o => .inl (hOX b o)
  have key : ∀ (k' i : Nat), i + k' = ds.length → ∀ s₀' s' μ', Gs W p (f.setX X) (ρs i) μ' s₀' s' → Fw p.Oc μ s s' μ' → ItS (Yo (f.setX X) μ') Zi tp it (ds.drop i) s'.heap → (∀ b, Zi b → ¬ μ'.Z b) →
      (∀ j v, (oo.drop i).flatten.reverse[j]? = some v → tv (n + j) = some v) →
      Seg W.M A (Rg W p) (Yg W p tv) (n + (oo.drop i).flatten.length) s₀' (.forLoop target it body [] f.env) (W.M.den (.forLoop target it body [] f.env)) (loopFrame f.env K H gd lv c pp :: fs) s' := by
    intro k'
    induction k' with
    | zero =>
      intro i hk s₀' s' μ' g' fw its' dis htv
      have hi' : i = ds.length := by omega
      have hd : ds.drop i = [] := by rw [hi']; simp
      have ho : oo.drop i = [] := by rw [hi', ← hoo]; simp
      rw [hd] at its'
      rw [ho]
      have hZX : ∀ b, Zi b → Yo (f.setX X) μ' b := fun b z => .inl (.inr z)
      refine seg_forLoop (wpAny_mono (ItS.done V rL.hd g'.inv g'.fm.yk hZX its') (fun rr s3 q => ?_) fun _ _ z => z)
      obtain ⟨rfl, k3, I3⟩ := q
      have kz : Kp (p.Zw s₀'.heap) s₀' s3 := g'.kp.trans2 k3 fun b o e t z => (by
        by_cases q : p.Zw s₀'.heap b
        · exact q
        · obtain ⟨o2, vs, e2, hd2⟩ := its'.fields b z
          have e2' := e2; rw [g'.kp.keep b o e q t] at e2; cases e2
          exact .inr ⟨(hZg b z).1, (hZg b z).2.1, (hZg b z).2.2, _, _, e, hd2, its'.nosl b z _ e2'⟩)
      refine seg_block (k s₀' s3 μ' ⟨kz, I3, ?_, g'.zl, Nat.le_trans g'.new.1 k3.size, Nat.lt_of_lt_of_le g'.new.2.1 k3.size, fun b o => Nat.lt_of_lt_of_le (g'.new.2.2.1 b o) k3.size, g'.new.2.2.2⟩ ?_)
      · rw [← hi']
        exact (g'.fm.stepZ g'.inv k3 (fun b z => .inr z) its'.fields).dropX (f := f.setX X) (X := f.X) fun b y => .inl y
      · exact ⟨fun b o e n1 n2 t => k3.keep b o (fw.keep b o e n1 n2 t) (fun z => absurd (Heap.lt_size e) (Nat.not_lt.mpr (hZi b z).1)) t, Nat.le_trans fw.size k3.size, fw.grow⟩
    | succ k' ih =>
      intro i hk s₀' s' μ' g' fw its' dis htv
      have hil : i < ds.length := by omega
      obtain ⟨d, hdi⟩ : ∃ d, ds[i]? = some d := ⟨_, List.getElem?_eq_getElem hil⟩
      obtain ⟨o, hoi⟩ : ∃ o, oo[i]? = some o := ⟨_, List.getElem?_eq_getElem (by omega)⟩
      have hd : ds.drop i = d :: ds.drop (i + 1) := by
        rw [List.drop_eq_getElem_cons hil]
        rw [List.getElem?_eq_getElem hil] at hdi; cases hdi; rfl
      have ho : oo.drop i = o :: oo.drop (i + 1) := by
        have hl : i < oo.length := by omega
        rw [List.drop_eq_getElem_cons hl]
        rw [List.getElem?_eq_getElem hl] at hoi; cases hoi; rfl
      rw [hd] at its'
      rw [ho, List.flatten_cons]
      rw [ho, List.flatten_cons] at htv
      have e1 : n + (o ++ (oo.drop (i + 1)).flatten).length = (n + (oo.drop (i + 1)).flatten.length) + o.length := by rw [List.length_append]; omega
      rw [e1]
      have hZX : ∀ b, Zi b → Yo (f.setX X) μ' b := fun b z => .inl (.inr z)
      obtain ⟨ρt, ha, hx⟩ := hb i d o hdi hoi X hOX'
      refine seg_forLoop (wpAny_mono (ItS.next V g'.inv g'.fm.yk hZX its' (ht d (List.mem_of_getElem? hdi))) (fun rr s3 q => ?_) fun _ _ z => z)
      obtain ⟨v, rfl, q⟩ := q
      refine wpAny_mono q (fun _ s4 q => ?_) fun _ _ z => z
      obtain ⟨k4, I4, iv, it4⟩ := q
      have F4 := g'.fm.stepZ g'.inv k4 (fun b z => .inr z) its'.fields
      refine wpAny_mono (ha _ rL s4 μ' v I4 F4 iv) (fun _ s5 q => ?_) fun _ _ z => z
      obtain ⟨k5, I5, F5⟩ := q
      have it5 : ItS (Yo (f.setX X) μ') Zi tp it (ds.drop (i + 1)) s5.heap := it4.move ⟨fun _ z => .inl z, fun b o e y t => k5.keep b o e (fun z => y (.inr z.1)) t⟩ fun b o z e => k5.keep b o e (fun q => dis b z q.1) (F5.notab V (hZX b z))
      have sz5 : s'.heap.objs.size ≤ s5.heap.objs.size := Nat.le_trans k4.size k5.size
      have fw5 : Fw p.Oc μ s s5 μ' := ⟨fun b o e n1 n2 t => k5.keep b o (k4.keep b o (fw.keep b o e n1 n2 t) (fun z => absurd (Heap.lt_size e) (Nat.not_lt.mpr (hZi b z).1)) t) (fun z => (fw.grow b z.1).elim n1 fun q => absurd (Heap.lt_size e) (Nat.not_lt.mpr q)) t, Nat.le_trans fw.size sz5, fw.grow⟩
      have kz : Kp (p.Zw s₀'.heap) s₀' s4 := g'.kp.trans2 k4 fun b o e t z => (by
        by_cases q : p.Zw s₀'.heap b
        · exact q
        · obtain ⟨o2, vs, e2, hd2⟩ := its'.fields b z
          have e2' := e2; rw [g'.kp.keep b o e q t] at e2; cases e2
          exact .inr ⟨(hZg b z).1, (hZg b z).2.1, (hZg b z).2.2, _, _, e, hd2, its'.nosl b z _ e2'⟩)
      have g5 : Gs W p (f.setX X) ρt μ' s₀' s5 := ⟨kz.trans2 k5 fun b o e t z => .inl (g'.zl b z.1), I5, F5, g'.zl, Nat.le_trans g'.new.1 sz5, Nat.lt_of_lt_of_le g'.new.2.1 sz5, fun b o => Nat.lt_of_lt_of_le (g'.new.2.2.1 b o) sz5, g'.new.2.2.2⟩
      refine hx A (n + (oo.drop (i + 1)).flatten.length) s₀' s5 μ' _ _ _ _ _ _ rL ?_ ?_ rfl (fun j u hu => ?_) g5 fun s₀'' s'' μ'' g'' fw'' => ?_
      · show (splitAtGen fs).map _ = none
        rw [q1]; rfl
      · show (gd false || fs.any Frame.guarded) = false
        rw [q3, q2]; rfl
      · have := htv ((oo.drop (i + 1)).flatten.length + j) u (by rw [List.reverse_append, List.getElem?_append_right (by simp)]; simpa using hu)
        rw [Nat.add_assoc]; exact this
      · refine seg_again rfl (ih (i + 1) (by omega) s₀'' s'' μ'' g'' (fw5.trans fw'') ?_ (fun b z z6 => ?_) fun j u hu => ?_)
        · exact it5.move ⟨fun b y => by
            rcases y with y | y
            · exact .inl (.inl y)
            · exact (fw''.grow b y).imp_left .inr, fun b o e y t => fw''.keep b o e (fun z => y (.inr z)) (fun z => y (.inl (hOX' b z))) t⟩ fun b o z e => fw''.keep b o e (fun q => dis b z q) (fun q => (hZg b z).2.2 q) (F5.notab V (hZX b z))
        · rcases fw''.grow b z6 with q | q
          · exact dis b z q
          · exact absurd ((F5.lt b (hZX b z)).1) (Nat.not_lt.mpr q)
        · refine htv j u ?_
          have hlt : j < ((oo.drop (i + 1)).flatten).reverse.length := (List.getElem?_eq_some_iff.mp hu).1
          rw [List.reverse_append, List.getElem?_append_left hlt]; exact hu
  have := key ds.length 0 (by simp) s₀ s2 μ ⟨g.kp.trans2 k2 fun b o e t z => z.elim, I2, F2, g.zl, Nat.le_trans g.new.1 k2.size, Nat.lt_of_lt_of_le g.new.2.1 k2.size, fun b o => Nat.lt_of_lt_of_le (g.new.2.2.1 b o) k2.size, g.new.2.2.2⟩ (Fw.step k2) (by simpa using its2) (fun b z z' => absurd (F.lt b (.inr z')).1 (Nat.not_lt.mpr (hZi b z).1)) (by simpa using q4)
  simpa using this
end
end Mine
end
section -- S16
open PySem PySem.W PyProof.Rows PySem.Calls PySem.Spec
set_option Elab.async false
set_option maxRecDepth 100000
set_option linter.unusedVariables false
set_option autoImplicit false
set_option pp.maxSteps 600
namespace Mine

/-- old objects kept but those of Z; of the generators, those below g0 kept and none guarded above -/
structure Kx (Z : Addr → Prop) (g0 : Nat) (s s' : Shared) : Prop where
  keep : ∀ b o, s.heap.get? b = some o → ¬ Z b → ¬ isTab b → s'.heap.get? b = some o
  code : ∀ b o, s.heap.get? b = some o → isCode o → s'.heap.get? b = some o
  tab : ∀ P, isTab P → ∀ ps, s.heap.get? P = some (tabObj ps) → ∃ more, s'.heap.get? P = some (tabObj (ps ++ more))
  size : s.heap.objs.size ≤ s'.heap.objs.size
  gens : ∀ (i : Nat) (x : GenState), i < g0 → s.gens[i]? = some x → s'.gens[i]? = some x
  bare : (∀ (i : Nat) (x : GenState), g0 ≤ i → s.gens[i]? = some x → x.bare = true) → ∀ (i : Nat) (x : GenState), g0 ≤ i → s'.gens[i]? = some x → x.bare = true
  os : s'.os = s.os
section
variable {Z Z' : Addr → Prop} {g0 : Nat} {s s' s'' : Shared}
theorem Kp.kx (g0 : Nat) (k : Kp Z s s') : Kx Z g0 s s' :=
  ⟨k.keep, k.code, k.tab, k.size, fun i x _ e => k.gens i x e, fun h i x hi e => (by
    rcases Nat.lt_or_ge i s.gens.size with hl | hl
    · have h1 : s.gens[i]? = some s.gens[i] := by simp [hl]
      have h2 := k.gens _ _ h1
      rw [e] at h2; cases h2
      exact h i _ hi h1
    · exact k.bare i x e hl), k.os⟩
theorem Kx.kp (k : Kx Z s.gens.size s s') : Kp Z s s' :=
  ⟨k.keep, k.code, k.tab, k.size, fun i x e => k.gens i x (by rw [Array.getElem?_eq_some_iff] at e; exact e.1) e, fun i x e hi => k.bare (fun i x hi e => by rw [Array.getElem?_eq_none hi] at e; cases e) i x hi e, k.os⟩
theorem Kx.trans (h : Kx Z g0 s s') (h' : Kx Z' g0 s' s'') (hz : ∀ b, Z' b → Z b ∨ s.heap.objs.size ≤ b) : Kx Z g0 s s'' := by
  refine ⟨fun b o e n t => h'.keep b o (h.keep b o e n t) (fun z => ?_) t, fun b o e c => h'.code b o (h.code b o e c) c, fun P hP ps e => ?_, Nat.le_trans h.size h'.size, fun i x hi e => h'.gens i x hi (h.gens i x hi e), fun hb => h'.bare (h.bare hb), h'.os.trans h.os⟩
  · rcases hz b z with z | z
    · exact n z
    · exact absurd (Heap.lt_size e) (Nat.not_lt.mpr z)
  · obtain ⟨m1, e1⟩ := h.tab P hP ps e
    obtain ⟨m2, e2⟩ := h'.tab P hP _ e1
    exact ⟨m1 ++ m2, by rw [e2, Array.append_assoc]⟩
/-- one generator's state is set -/
theorem Kx.setGen {g : Nat} {x : GenState} (hg : g0 ≤ g) (hb : x.bare = true) : Kx Z g0 s (s.setGen g x) := by
  refine ⟨fun _ _ e _ _ => e, fun _ _ e _ => e, fun P hP ps e => ⟨#[], (by show s.heap.get? P = _; simpa using e)⟩, Nat.le_refl _, fun i y hi e => ?_, fun h i y hi e => ?_, rfl⟩
  · show (s.gens.setIfInBounds g x)[i]? = some y
    rw [Array.getElem?_setIfInBounds_ne (by omega)]; exact e
  · have e' : (s.gens.setIfInBounds g x)[i]? = some y := e
    rw [Array.getElem?_setIfInBounds] at e'
    split at e'
    · split at e'
      · cases e'; exact hb
      · cases e'
    · exact h i y hi e'
end

section
variable {W : Wd} {A : Around} {Oc : Addr → Prop} {p : Gp} {tv : Nat → Option Value} {s s' : Shared}
theorem Xc.refl (h : Heap) : Xc Oc h h := ⟨fun _ _ e _ _ => e, Nat.le_refl _, fun _ _ e => e⟩
theorem Xc.trans {h h' h'' : Heap} (a : Xc Oc h h') (b : Xc Oc h' h'') : Xc Oc h h'' := ⟨fun x o e n t => b.keep x o (a.keep x o e n t) n t, Nat.le_trans a.size b.size, fun c v e => b.cell c v (a.cell c v e)⟩
theorem Kp.xc (I : Inv W s.heap) (k : Kp No s s') : Xc Oc s.heap s'.heap := ⟨fun b o e _ t => k.keep b o e (fun z => z) t, k.size, fun c v hc => let ⟨o, ho, hd⟩ := hc; ⟨o, k.keep _ _ ho (fun z => z) (cell_notab I hc), hd⟩⟩

/-- a generator between two draws; n are left -/
structure GenAt (W : Wd) (A : Around) (p : Gp) (g : Nat) (tv : Nat → Option Value) (n : Nat) (s : Shared) : Prop where
  gen : s.heap.IsGen p.a g
  new : (∀ b, p.Oc b → b < s.heap.objs.size) ∧ ¬ p.Oc p.L ∧ ¬ p.Oc p.a ∧ p.L ≠ p.a
  st : ∃ gs, s.gens[g]? = some gs ∧ ∀ s'', Xc p.Oc s.heap s''.heap → Inv W s''.heap → gs.Goes W.M A.in1 (Rg W p) (Yg W p tv) n (.send .none) s''
theorem GenAt.step {g n : Nat} (G : GenAt W A p g tv n s) (x : Xc p.Oc s.heap s'.heap) (I : Inv W s.heap) (hg : ∀ x, s.gens[g]? = some x → s'.gens[g]? = some x) : GenAt W A p g tv n s' := by
  obtain ⟨⟨o, nm, qn, ho, hc, r⟩, hn, gs, hgs, h⟩ := G
  exact ⟨⟨o, nm, qn, x.keep _ _ ho hn.2.2.1 (cls_notab I ho (by rw [hc]; simp)), hc, r⟩, ⟨fun b o => Nat.lt_of_lt_of_le (hn.1 b o) x.size, hn.2⟩, gs, hg _ hgs, fun s'' x' I' => h s'' (x.trans x') I'⟩

theorem pyNext_gen {a : Addr} {g n : Nat} {gs : GenState} {P : Nat → Shared → Shared → Prop} {Y : Protocol} {Q : Option Value → Shared → Prop} (hh : A.handled = none)
    (hl : s.heap.NoLimit) (hroom : A.depth < recursionLimit) (hg : s.heap.IsGen a g) (hgs : s.gens[g]? = some gs)
    (hgo : gs.Goes W.M A.in1 (fun n s₀ r s₁ => r = .ok (.ret .none) ∧ P n s₀ s₁) Y n (.send .none) (s.setGen g .running))
    (hY : ∀ v s₁ gs', gs'.bare = true → Y (n - 1) (s.setGen g .running) v s₁ (fun r' s'' => match n with
        | 0 => False
        | m + 1 => gs'.Goes W.M A.in1 (fun n s₀ r s₁ => r = .ok (.ret .none) ∧ P n s₀ s₁) Y m r' s'') → Q (some v) (s₁.setGen g gs'))
    (hP : ∀ s₁, P n (s.setGen g .running) s₁ → ∀ h', s₁.heap.objs.size ≤ h'.objs.size → (∀ b o, s₁.heap.get? b = some o → h'.get? b = some o) → Q none { s₁.setGen g .finished with heap := h' }) :
    wpAny W.M A (pyNext (.ref a)) Q Fz s := by
  unfold pyNext
  refine wpAny_bind (wpAny_attempt (wpAny_callSpecial?_slot (name := Str.ofString "__next__") hg.typeIs slot_gen_next
    (wpAny_call_entry slot_gen_next hg.typeIs entry_gen_next ?_ (args_gen_next _))))
  show wpAny _ A.in1 (Builtin.Generator.genWake (.ref a) (.send .none)) _ _ s
  unfold Builtin.Generator.genWake
  refine wpAny_bind (wpAny_holding (wpAny_genNumber hg (wpAny_bind (wpAny_genState hgs ?_))))
  cases gs with
  | running => exact hgo.elim
  | finished => exact hgo.elim
  | _ =>
    refine wpAny_bind (wpAny_roomToWake hl hroom ?_)
    show wpAny _ A.in1 (.resume g (.send .none) [] _) _ _ s
    refine wpAny_resumeQ hgs hgo (fun x s₁ hx => ?_) (fun v s₁ gs' hb hv => ?_)
    · obtain ⟨rfl, hp⟩ := hx
      show wpAny _ A.in1 (newExc (.type "StopIteration") [] >>= _) _ _ _
      refine wpAny_bind ?_
      simp only [newExc, newTuple]
      refine wpAny_bind (wpAny_newObj_type ?_ (by size_fits))
      refine wpAny_bind (m := firstArgMember _ _) (wpAny_of_eq (a := Value.none) (by first | rfl | (simp only [firstArgMember]; rfl)) ?_)
      refine wpAny_newObj_type ?_ (by size_fits)
      simp only [raiseNew]
      refine wpAny_bind (wpAny_bind (wpAny_handled ?_))
      first | rw [show A.in1.handled = none from hh] | rw [hh]
      refine wpAny_throw ?_
      refine wpAny_bind (wpAny_isInstance (T := "StopIteration") (b := true) ⟨_, Heap.get?_push_size _ rfl, rfl⟩ isSubtype_stop ?_)
      exact wpAny_pure (hP s₁ hp _ (by rw [Heap.size_push, Heap.size_push]; exact Nat.le_succ_of_le (Nat.le_succ _)) fun b o hb => Heap.get?_push_of_some _ (Heap.get?_push_of_some _ hb))
    · exact wpAny_pure ⟨v, rfl, wpAny_pure (hY v s₁ gs' hb hv)⟩

/-- a draw -/
theorem GenAt.next {g n g0 : Nat} (V : W.Ok) (hh : A.handled = none) (hroom : A.depth < recursionLimit) (I : Inv W s.heap) (G : GenAt W A p g tv (n + 1) s) (hg0 : g0 ≤ g) :
    wpAny W.M A (pyNext (.ref p.a)) (fun r s' => ∃ v, r = some v ∧ tv n = some v ∧ Kx (p.Zw s.heap) g0 s s' ∧ Inv W s'.heap ∧ GenAt W A p g tv n s') Fz s := by
  obtain ⟨hgen, hn, gs, hgs, h⟩ := G
  refine pyNext_gen (P := fun k s₀ s' => k = 0 ∧ Kp (p.Zw s₀.heap) s₀ s' ∧ Inv W s'.heap) (Y := Yg W p tv) (n := n + 1) hh I.lim hroom hgen hgs (h _ (Xc.refl _) I) (fun v s₁ gs' hb hy => ?_) fun s₁ hp h' hsz hk => ?_
  · obtain ⟨ht, kp, I1, hk⟩ := hy
    have hgs1 : s₁.gens[g]? = some .running := kp.gens g _ (by
      show (s.gens.setIfInBounds g .running)[g]? = some .running
      rw [Array.getElem?_setIfInBounds_self_of_lt (by rw [Array.getElem?_eq_some_iff] at hgs; exact hgs.1)])
    have kx0 : Kx (p.Zw s.heap) g0 s (s.setGen g .running) := Kx.setGen hg0 rfl
    have kx1 : Kx (p.Zw s.heap) g0 s s₁ := kx0.trans (kp.kx g0) fun b z => .inl z
    have kx2 : Kx (p.Zw s.heap) g0 s₁ (s₁.setGen g gs') := Kx.setGen hg0 hb
    have kx : Kx (p.Zw s.heap) g0 s (s₁.setGen g gs') := kx1.trans kx2 fun b z => .inl z
    have hZa : ¬ p.Zw s.heap p.a := fun z => z.elim (fun e => hn.2.2.2 e.symm) fun z => z.2.1 rfl
    refine ⟨v, rfl, ht, kx, I1, ?_, ⟨fun b o => Nat.lt_of_lt_of_le (hn.1 b o) kx.size, hn.2⟩, gs', ?_, fun s'' x I'' => hk s'' x I''⟩
    · obtain ⟨o, nm, qn, ho, hc, r⟩ := hgen
      exact ⟨o, nm, qn, kx.keep _ _ ho hZa (cls_notab I ho (by rw [hc]; simp)), hc, r⟩
    · show (s₁.gens.setIfInBounds g gs')[g]? = some gs'
      rw [Array.getElem?_setIfInBounds_self_of_lt (by rw [Array.getElem?_eq_some_iff] at hgs1; exact hgs1.1)]
  · exact absurd hp.1 (by omega)
theorem GenAt.done {g g0 : Nat} (V : W.Ok) (hh : A.handled = none) (hroom : A.depth < recursionLimit) (I : Inv W s.heap) (G : GenAt W A p g tv 0 s) (hg0 : g0 ≤ g) :
    wpAny W.M A (pyNext (.ref p.a)) (fun r s' => r = none ∧ Kx (p.Zw s.heap) g0 s s' ∧ Inv W s'.heap) Fz s := by
  obtain ⟨hgen, hn, gs, hgs, h⟩ := G
  refine pyNext_gen (P := fun k s₀ s' => k = 0 ∧ Kp (p.Zw s₀.heap) s₀ s' ∧ Inv W s'.heap) (Y := Yg W p tv) (n := 0) hh I.lim hroom hgen hgs (h _ (Xc.refl _) I) (fun v s₁ gs' hb hy => ?_) fun s₁ hp h' hsz hk => ?_
  · obtain ⟨_, _, I1, hk⟩ := hy
    exact (hk s₁ (Xc.refl _) I1).elim
  · obtain ⟨_, kp, I1⟩ := hp
    have kq : Kq No s₁.heap h' := .all hk hsz
    have kx0 : Kx (p.Zw s.heap) g0 s (s.setGen g .running) := Kx.setGen hg0 rfl
    have kx1 : Kx (p.Zw s.heap) g0 s s₁ := kx0.trans (kp.kx g0) fun b z => .inl z
    have kx2 : Kx (p.Zw s.heap) g0 s₁ (s₁.setGen g .finished) := Kx.setGen hg0 rfl
    have k3 : Kp No (s₁.setGen g .finished) { s₁.setGen g .finished with heap := h' } := Kq.kp (s := s₁.setGen g .finished) (tk := s₁.toks) kq fun _ _ z => z
    exact ⟨rfl, (kx1.trans kx2 fun b z => .inl z).trans (k3.kx g0) fun b z => z.elim, I1.step V kq fun _ z => z.elim⟩
end
end Mine
end
section -- S17
open PySem PySem.W PyProof.Rows PySem.Calls PySem.Spec
set_option Elab.async false
set_option maxRecDepth 100000
set_option linter.unusedVariables false
set_option autoImplicit false
set_option pp.maxSteps 600
namespace Mine
/-- a def made in a body, that is a generator's, with what it keeps -/
noncomputable def Sel (Y : Addr → Prop) (h : Heap) (v : Value) (sc : Scope) (body : List Stmt) (ps : List Str) (caps : List (Str × D)) : Prop :=
  ∃ fa od fd, v = .ref fa ∧ h.get? fa = some ⟨.type "function", od, .func fd, #[]⟩ ∧ CodeIs h fd.code fd.qualname ∧ fd.scope = sc ∧ fd.body = .stmts body ∧ fd.globals = mainGlobals ∧ fd.builtins = builtinsNs ∧
    (∀ vs, vs.length = ps.length → bindArgs fd ⟨vs, []⟩ = pure (ps.zip vs)) ∧ ∀ q ∈ caps, ∃ c u, fd.closure.lookup q.1 = some c ∧ h.IsCell c (some u) ∧ D.Is Y h q.2 u
theorem Sel.step {W : Wd} {Y : Addr → Prop} {s s' : Shared} {v : Value} {sc : Scope} {body : List Stmt} {ps : List Str} {caps : List (Str × D)} (I : Inv W s.heap) (k : Kp No s s') (S : Sel Y s.heap v sc body ps caps) : Sel Y s'.heap v sc body ps caps := by
  obtain ⟨fa, od, fd, e, h1, h2, h3, h4, h5, h6, h7, h8⟩ := S
  refine ⟨fa, od, fd, e, k.keep _ _ h1 (fun z => z) (cls_notab I h1 (by simp)), h2.step k.code, h3, h4, h5, h6, h7, fun q hq => ?_⟩
  obtain ⟨c, u, a, b, d⟩ := h8 q hq
  have nt := cell_notab I b
  obtain ⟨o, ho, hd⟩ := b
  exact ⟨c, u, a, ⟨o, k.keep _ _ ho (fun z => z) nt, hd⟩, d.step k⟩
noncomputable abbrev fdG (sc : Scope) (cl : List (Str × Addr)) (qual : Str) (fa : Addr) (code : Value) (nm : List Str) (X : Addr → Prop) (L : Nat) : Fd := ⟨X, newEnv sc L mainGlobals cl qual (some fa) code none builtinsNs, nm, L, false⟩
noncomputable abbrev ρG (ds : List D) (k : Nat) (caps : List (Str × D)) : List Vr := ds.map Vr.val ++ (List.replicate k Vr.un ++ caps.map fun q => Vr.val q.2)
theorem ρG_box {ds : List D} {k : Nat} {caps : List (Str × D)} {i : Nat} {l : Bx} (h : (ρG ds k caps)[i]? = some (Vr.box l)) : False := by
  have := List.mem_of_getElem? h
  rcases List.mem_append.mp this with h | h
  · obtain ⟨q, _, hq⟩ := List.mem_map.mp h; cases hq
  · rcases List.mem_append.mp h with h | h
    · have := List.eq_of_mem_replicate h; cases this
    · obtain ⟨q, _, hq⟩ := List.mem_map.mp h; cases hq
section
variable {W : Wd} {m : Nat}

theorem genCall {A : Around} {s : Shared} {Y : Addr → Prop} {v : Value} {vs : List Value} {sc : Scope} {body : List Stmt} {ps un : List Str} {caps : List (Str × D)} {ds : List D} {outs : List Value} (V : W.Ok) (hroom : A.depth < recursionLimit) (I : Inv W s.heap) (y : Yk W Y s.heap)
    (S : Sel Y s.heap v sc body ps caps) (il : D.IsL Y s.heap ds vs) (hlen : ds.length = ps.length)
    (hcell : ∀ x ∈ sc.names, x.2 ≠ .cell) (hloc : ∀ x ∈ ps, sc.names.lookup x = some .local) (hcap : ∀ q ∈ caps, sc.names.lookup q.1 = some .free) (hgen : sc.isGenerator = true) (hco : sc.isCoroutine = false) (hkf : sc.kind = .function)
    (hnod : (ps ++ (un ++ caps.map (·.1))).Nodup)
    (hgx : ∀ X L cl qual fa code p, (∀ b, p.Oc b → X b) → ∃ ρ', GX W m p (fun k => outs.reverse[k]?) (fdG sc cl qual fa code (ps ++ (un ++ caps.map (·.1))) X L) (ρG ds un.length caps) body outs ρ') :
    wpAny W.M A (call v vs) (fun gv s' => ∃ a g L, gv = .ref a ∧ s.heap.objs.size ≤ a ∧ a < s'.heap.objs.size ∧ s.heap.objs.size ≤ L ∧ L < s'.heap.objs.size ∧ s.gens.size ≤ g ∧ Kp No s s' ∧ Inv W s'.heap ∧ s'.heap.IsGen a g ∧ (∃ x, s'.gens[g]? = some x) ∧
      ∀ A', Rm (m + 2) A' → ∀ Oc : Addr → Prop, (∀ b, Oc b → s'.heap.objs.size ≤ b) →
        ∀ s'', Xc Oc s'.heap s''.heap → Inv W s''.heap → (∀ x, s'.gens[g]? = some x → s''.gens[g]? = some x) → (∀ b, Oc b → b < s''.heap.objs.size) → GenAt W A' ⟨s.heap.objs.size, L, a, Oc⟩ g (fun k => outs.reverse[k]?) outs.length s'') Fz s := by
  obtain ⟨fa, od, fd, rfl, h1, h2, rfl, h4, h5, h6, h7, h8⟩ := S
  have hvl := il.length
  refine wpAny_call (codeAny_call_generator hroom h1 rfl hco hgen h4 h2.rec ?_)
  rw [h7 vs (by rw [hvl, hlen])]
  refine wpAny_pure (wpAny_newFunctionEnv hcell (fun x hx => hloc x.1 (List.of_mem_zip hx).1) (fun h' hns hsb => ?_) hkf)
  have keep : ∀ b o, s.heap.get? b = some o → h'.get? b = some o := fun b o e => hsb.extBut b o (Nat.ne_of_lt (Heap.lt_size e)) (Heap.get?_push_of_some _ e)
  have hsz : h'.objs.size = s.heap.objs.size + 1 := by rw [hsb.1, Heap.size_push]
  have kq : Kq No s.heap h' := .all keep (by rw [hsz]; exact Nat.le_succ _)
  have I1 : Inv W h' := I.step V kq fun _ z => z.elim
  refine ⟨I.lim.keeps keep, ?_⟩
  generalize hL : s.heap.objs.size = L at *
  let go : Obj := { cls := .type "generator", data := .fields #[.int s.gens.size 0, .str fd.name (s.toks + (ps.zip vs).length), .str fd.qualname (s.toks + (ps.zip vs).length + 1)] }
  have kq2 : Kq No s.heap (h'.push go) := kq.trans (.push _ _) fun _ z => .inl z
  have I2 : Inv W (h'.push go) := I1.push V go
  have hb : ∀ (i : Nat) (x : GenState), (s.gens.push (.fresh (.func body (newEnv fd.scope L fd.globals fd.closure (fd.qualname ++ ".<locals>.") (some fa) fd.code none fd.builtins))))[i]? = some x → s.gens.size ≤ i → x.bare = true := fun i x e hi => by
    rw [Array.getElem?_push] at e
    split at e
    · cases e; rfl
    · rw [Array.getElem?_eq_none hi] at e; cases e
  have kp : Kp No s { s with heap := h'.push go, toks := s.toks + (ps.zip vs).length + 1 + 1, gens := s.gens.push (.fresh (.func body (newEnv fd.scope L fd.globals fd.closure (fd.qualname ++ ".<locals>.") (some fa) fd.code none fd.builtins))) } :=
    ⟨fun b o e _ _ => kq2.keep b o e fun z => z, kq2.code, fun P hP ps' e => ⟨#[], by simpa using kq2.keep P _ e fun z => z⟩, kq2.size, fun i x e => (by
      rw [Array.getElem?_push]
      have : i < s.gens.size := by rw [Array.getElem?_eq_some_iff] at e; exact e.1
      rw [if_neg (by omega)]; exact e), hb, rfl⟩
  have hgn : (h'.push go).IsGen h'.objs.size s.gens.size := ⟨go, _, _, Heap.get?_push_size _ rfl, rfl, rfl, rfl⟩
  refine ⟨h'.objs.size, s.gens.size, L, rfl, by rw [hsz]; exact Nat.le_succ _, by show h'.objs.size < (h'.push go).objs.size; rw [Heap.size_push]; exact Nat.lt_succ_self _, Nat.le_refl _, by show L < (h'.push go).objs.size; rw [Heap.size_push, hsz]; exact Nat.lt_succ_of_lt (Nat.lt_succ_self _), Nat.le_refl _, kp, I2, hgn, ⟨_, Array.getElem?_push_size⟩, fun A' r' Oc hOc => ?_⟩
  have hsz2 : (h'.push go).objs.size = L + 2 := by rw [Heap.size_push, hsz]
  have hOc' : ∀ b, Oc b → L + 2 ≤ b := fun b o => by have := hOc b o; rw [hsz2] at this; exact this
  intro s'' x I'' hgs hOs
  -- the generator at any later time
  have hna : ¬ Oc h'.objs.size := fun o => by have := hOc' _ o; rw [hsz] at this; exact absurd this (by omega)
  have hnL : ¬ Oc L := fun o => absurd (hOc' L o) (by omega)
  have hLa : L ≠ h'.objs.size := by rw [hsz]; exact Nat.ne_of_lt (Nat.lt_succ_self _)
  refine ⟨?_, ⟨hOs, hnL, hna, hLa⟩, _, hgs _ Array.getElem?_push_size, fun s3 x3 I3 => ⟨rfl, ?_⟩⟩
  · obtain ⟨o, nm, qn, ho, hc, r⟩ := hgn
    exact ⟨o, nm, qn, x.keep _ _ ho hna (cls_notab I2 ho (by rw [hc]; simp)), hc, r⟩
  have x2 := x.trans x3
  have hOs3 : ∀ b, Oc b → b < s3.heap.objs.size := fun b o => Nat.lt_of_lt_of_le (hOs b o) x3.size
  have keep3 : ∀ b o, (h'.push go).get? b = some o → ¬ isTab b → s3.heap.get? b = some o := fun b o e t => x2.keep b o e (fun q => absurd (Heap.lt_size e) (Nat.not_lt.mpr (hOc b q))) t
  have keep0 : ∀ b o, s.heap.get? b = some o → ¬ isTab b → s3.heap.get? b = some o := fun b o e t => keep3 b o (kq2.keep b o e fun z => z) t
  let X : Addr → Prop := fun b => Y b ∨ Oc b
  let μ0 : Mu := ⟨(· = L), fun _ => 0⟩
  obtain ⟨ρ', gx⟩ := hgx X L fd.closure (fd.qualname ++ ".<locals>.") fa fd.code ⟨L, L, h'.objs.size, Oc⟩ (fun b o => .inr o)
  have mv : Mv Y (Yo (fdG fd.scope fd.closure (fd.qualname ++ ".<locals>.") fa fd.code (ps ++ (un ++ caps.map (·.1))) X L) μ0) s.heap s3.heap := ⟨fun b z => by
    rcases z with (z | z) | z
    · exact .inl z
    · exact .inr (by rw [hL]; exact Nat.le_trans (Nat.le_add_right L 2) (hOc' b z))
    · exact .inr (by rw [hL]; exact Nat.le_of_eq z.symm), fun b o e _ t => keep0 b o e t⟩
  have hns3 : s3.heap.Ns L (fun q => (ps.zip vs).reverse.lookup q) := by
    have hn2 : (h'.push go).Ns L (fun q => (ps.zip vs).reverse.lookup q) := hns.at' fun o e => Heap.get?_push_of_some _ e
    exact hn2.at' fun o e => keep3 _ _ e (ns_notab I2 hn2)
  have hWB : W.B ≤ L := by rw [← hL]; exact I.size
  have F3 : Fm W (fdG fd.scope fd.closure (fd.qualname ++ ".<locals>.") fa fd.code (ps ++ (un ++ caps.map (·.1))) X L) (ρG ds un.length caps) μ0 s3.heap := by
    refine ⟨hkf, rfl, rfl, hnod, ⟨_, hns3⟩, rfl, (fun q => by cases q), (fun q => by cases q), fun i z d hi hd => ?_, fun i z l _ hl => (ρG_box hl).elim, fun b z => ?_, fun b z => Nat.le_of_eq (Eq.symm z), hWB⟩
    · have hi : (ps ++ (un ++ caps.map (·.1)))[i]? = some z := hi
      rcases Nat.lt_or_ge i ds.length with hl | hl
      · have hd' : ds[i]? = some d := by
          unfold ρG at hd
          rw [List.getElem?_append_left (by simpa using hl), List.getElem?_map] at hd
          cases e : ds[i]? with
          | none => rw [e] at hd; cases hd
          | some d' => rw [e] at hd; cases hd; rfl
        have hi' : ps[i]? = some z := by rwa [List.getElem?_append_left (by rw [← hlen]; exact hl)] at hi
        obtain ⟨u, hu, iu⟩ := il.get i hd'
        have hmem : (z, u) ∈ ps.zip vs := List.mem_of_getElem? (i := i) (by rw [List.getElem?_zip_eq_some]; exact ⟨hi', hu⟩)
        have hnz : ((ps.zip vs).map (·.1)).Nodup := by
          rw [zip_fst ps vs (by rw [hvl, hlen]; exact Nat.le_refl _)]
          exact (List.nodup_append.mp hnod).1.sublist (List.take_sublist _ _)
        exact ⟨u, .inl ⟨hloc z (List.mem_of_getElem? hi'), _, hns3, lookup_rev hnz hmem⟩, iu.move mv⟩
      · unfold ρG at hd
        rw [List.getElem?_append_right (by simpa using hl)] at hd
        rw [List.getElem?_append_right (by rw [← hlen]; exact hl)] at hi
        obtain ⟨hle, hd2⟩ := getElem?_pad hd
        rw [List.length_map] at hle hd2
        rw [← hlen, List.getElem?_append_right hle] at hi
        rw [List.getElem?_map] at hd2 hi
        cases hq : caps[i - ds.length - un.length]? with
        | none => rw [hq] at hd2; cases hd2
        | some q =>
          rw [hq] at hd2 hi
          cases hd2; cases hi
          have hqm := List.mem_of_getElem? hq
          obtain ⟨c, u, a, b, iu⟩ := h8 q hqm
          have nt := cell_notab I b
          obtain ⟨o, ho, hdd⟩ := b
          exact ⟨u, .inr ⟨.inr (hcap q hqm), c, a, ⟨o, keep0 _ _ ho nt, hdd⟩⟩, iu.move mv⟩
    · have s03 : L + 2 ≤ s3.heap.objs.size := by
        have := x2.size
        rw [hsz2] at this; exact this
      rcases z with (z | z) | z
      · have := y b z
        rw [hL] at this
        exact ⟨Nat.lt_of_lt_of_le this.1 (Nat.le_trans (Nat.le_add_right L 2) s03), this.2⟩
      · exact ⟨hOs3 b z, Nat.le_trans hWB (Nat.le_trans (Nat.le_add_right L 2) (hOc' b z))⟩
      · rw [show b = L from z]; exact ⟨Nat.lt_of_lt_of_le (Nat.lt_add_of_pos_right (by decide)) s03, hWB⟩
  have s03 : L + 2 ≤ s3.heap.objs.size := by
    have := x2.size
    rw [hsz2] at this; exact this
  have rr : Rm m (A'.in1.over (.func body (newEnv fd.scope L fd.globals fd.closure (fd.qualname ++ ".<locals>.") (some fa) fd.code none fd.builtins)) []) := by
    refine (r'.in1).down rfl ?_ ?_
    · show A'.in1.depth + frameCount [] + _ ≤ _
      exact Nat.le_refl _
    · show A'.in1.units + PySem.unitsOf [] + _ ≤ _
      exact Nat.add_le_add_left (by show 3 * 1 ≤ 100; decide) _
  rw [h5, h6] at rr ⊢
  refine seg_func ?_
  have := gx A'.in1 0 s3 s3 μ0 (.func body (newEnv fd.scope L mainGlobals fd.closure (fd.qualname ++ ".<locals>.") (some fa) fd.code none builtinsNs)) [] (fun f => .pure (.done (.ret (match f with | .ret v => v | _ => .none))))
      (fun e => (leaving (newEnv fd.scope L mainGlobals fd.closure (fd.qualname ++ ".<locals>.") (some fa) fd.code none builtinsNs) e).wrap (fun _ => .raise e) .raise id id) id id rr rfl rfl rfl (fun i u hu => by simpa using hu)
      ⟨Kp.refl _ _, I3, F3, fun b z => z, Nat.le_trans (Nat.le_add_right L 2) s03, (by show h'.objs.size < _; rw [hsz]; exact Nat.lt_of_lt_of_le (Nat.lt_succ_self _) s03), hOs3, hnL⟩
      fun s₀' s' μ' g' fw => seg_end (.ok (.ret .none)) ⟨rfl, rfl, g'.kp, g'.inv⟩
  rw [Nat.zero_add] at this
  exact this
end
end Mine
end
section -- S18
open PySem PySem.W PyProof.Rows PySem.Calls PySem.Spec
set_option Elab.async false
set_option maxRecDepth 100000
set_option linter.unusedVariables false
set_option autoImplicit false
set_option pp.maxSteps 600
namespace Mine
structure Ready (W : Wd) (m B0 : Nat) (L a : Addr) (g : Nat) (vs : List Value) (s : Shared) : Prop where
  gen : s.heap.IsGen a g
  st : ∃ x, s.gens[g]? = some x
  lo : B0 ≤ L ∧ B0 ≤ a ∧ L < s.heap.objs.size ∧ a < s.heap.objs.size
  at_ : ∀ A', Rm (m + 2) A' → ∀ Oc : Addr → Prop, (∀ b, Oc b → s.heap.objs.size ≤ b) → ∀ s'', Xc Oc s.heap s''.heap → Inv W s''.heap → (∀ x, s.gens[g]? = some x → s''.gens[g]? = some x) → (∀ b, Oc b → b < s''.heap.objs.size) →
    GenAt W A' ⟨B0, L, a, Oc⟩ g (fun k => vs.reverse[k]?) vs.length s''
section
variable {W : Wd} {m B0 : Nat} {L a : Addr} {g : Nat} {vs : List Value} {s s' : Shared}
theorem Ready.step (I : Inv W s.heap) (k : Kp No s s') (R : Ready W m B0 L a g vs s) : Ready W m B0 L a g vs s' := by
  obtain ⟨⟨o, nm, qn, ho, hc, r⟩, ⟨x, hx⟩, lo, h⟩ := R
  exact ⟨⟨o, nm, qn, k.keep _ _ ho (fun z => z) (cls_notab I ho (by rw [hc]; simp)), hc, r⟩, ⟨x, k.gens _ _ hx⟩, ⟨lo.1, lo.2.1, Nat.lt_of_lt_of_le lo.2.2.1 k.size, Nat.lt_of_lt_of_le lo.2.2.2 k.size⟩,
    fun A' r' Oc hO s'' x' I'' hg hOs => h A' r' Oc (fun b o => Nat.le_trans k.size (hO b o)) s'' ((k.xc I).trans x') I'' (fun y hy => hg y (k.gens _ _ hy)) hOs⟩

/-- the loop of list.extend over a generator -/
theorem extLoop {A : Around} {p : Gp} {S : Addr} {g0 : Nat} {tv : Nat → Option Value} {R : Result → Shared → Prop} (V : W.Ok) (res : Value) (hh : A.handled = none) (hroom : A.in1.depth < recursionLimit) (hg0 : g0 ≤ g) (hSO : p.Oc = (· = S)) (hSL : S ≠ p.L) (hBS : p.B0 ≤ S) (hBL : p.B0 ≤ p.L) (hB : W.B ≤ p.B0) :
    ∀ (rem : List Value) (s : Shared) (acc : List Value) (c : Nat), Inv W s.heap → GenAt W A.in1 p g tv rem.length s → (∀ i v, rem.reverse[i]? = some v → tv i = some v) → s.heap.get? S = some { cls := .type "list", dict := none, data := .seq acc.toArray c, slots := #[] } → acc.length + rem.length ≤ 100000 →
    (∀ s' c', Kx (fun b => p.B0 ≤ b) g0 s s' → Inv W s'.heap → s'.heap.get? S = some { cls := .type "list", dict := none, data := .seq (acc ++ rem).toArray c', slots := #[] } → R (.ok (.ret res)) s') →
    codeAny W.M A (.builtin "list.extend.loop" ⟨[.ref S, .ref p.a, res], []⟩) R s := by
  have zb : ∀ {h : Heap} {b : Addr}, p.Zw h b → p.B0 ≤ b := fun z => z.elim (fun e => e ▸ hBL) fun z => z.1
  have toB : ∀ {s s1 : Shared}, Kx (p.Zw s.heap) g0 s s1 → Kx (fun b => p.B0 ≤ b) g0 s s1 := fun kx => ⟨fun b o e n t => kx.keep b o e (fun z => n (zb z)) t, kx.code, kx.tab, kx.size, kx.gens, kx.bare, kx.os⟩
  intro rem
  induction rem with
  | nil =>
    intro s acc c I G ht hS hsz hR
    refine codeAny_builtin F.entry_extend_loop ?_
    rw [Around.under_plainId F.plain_extend_loop _]
    show wpAny _ A.in1 (pyNext (.ref p.a) >>= _) _ _ s
    have hSZ : ¬ p.Zw s.heap S := fun z => z.elim hSL fun z => z.2.2.1 (by rw [hSO])
    refine wpAny_bind (wpAny_mono (G.done V hh hroom I hg0) (fun r s1 q => ?_) fun _ _ z => z.elim)
    obtain ⟨rfl, kx, I1⟩ := q
    refine wpAny_pure (hR s1 c (toB kx) I1 ?_)
    · rw [List.append_nil]; exact kx.keep _ _ hS hSZ (cls_notab I hS (by simp))
  | cons v rem ih =>
    intro s acc c I G ht hS hsz hR
    refine codeAny_builtin F.entry_extend_loop ?_
    rw [Around.under_plainId F.plain_extend_loop _]
    show wpAny _ A.in1 (pyNext (.ref p.a) >>= _) _ _ s
    have hSZ : ¬ p.Zw s.heap S := fun z => z.elim hSL fun z => z.2.2.1 (by rw [hSO])
    refine wpAny_bind (wpAny_mono (GenAt.next (n := rem.length) V hh hroom I G hg0) (fun r s1 q => ?_) fun _ _ z => z.elim)
    obtain ⟨v', rfl, hv, kx, I1, G1⟩ := q
    have hv' : tv rem.length = some v := ht rem.length v (by rw [List.reverse_cons, List.getElem?_append_right (by simp)]; simp)
    rw [hv'] at hv; cases hv
    have hS1 := kx.keep _ _ hS hSZ (cls_notab I hS (by simp))
    show wpAny _ A.in1 (updateSeq S (·.push v) >>= _) _ _ s1
    refine wpAny_bind ?_
    refine wpAny_updateSeq hS1 rfl (wpAny_pure ⟨plainId_quiet F.plain_extend_loop _, ?_⟩) (by simp at hsz ⊢; unfold sizeLine; omega) (by simp at hsz ⊢; unfold sizeLine; omega)
    have hS2 := Heap.get?_update_self (Obj.mapSeq (·.push v)) hS1 rfl
    have hsb : Heap.SameBut S s1.heap (s1.heap.update S (Obj.mapSeq (·.push v))) := Heap.SameBut.update ..
    have kq : Kq (· = S) s1.heap (s1.heap.update S (Obj.mapSeq (·.push v))) := Kq.one hsb hS1 (noCode rfl)
    have hBz : ∀ b, b = S → W.B ≤ b := fun b e => e ▸ Nat.le_trans hB hBS
    have I2 := I1.step V kq hBz
    have x2 : Xc p.Oc s1.heap (s1.heap.update S (Obj.mapSeq (·.push v))) := ⟨fun b o e n _ => kq.keep b o e (fun q => n (by rw [hSO]; exact q)), kq.size, fun c' u hc => hc.sameBut hsb (fun q => by
      obtain ⟨o, ho, hd⟩ := hc
      rw [q, hS1] at ho; cases ho; cases hd)⟩
    have G2 : GenAt W A.in1 p g tv rem.length { s1 with heap := s1.heap.update S (Obj.mapSeq (·.push v)) } := G1.step x2 I1 fun x e => e
    refine ih { s1 with heap := s1.heap.update S (Obj.mapSeq (·.push v)) } (acc ++ [v]) _ I2 G2 (fun i u hu => ht i u ?_) (by rw [hS2]; simp [Obj.mapSeq]; rfl) (by simp at hsz ⊢; omega) fun s' c' kx' I' hS' => hR s' c' ?_ I' (by simpa using hS')
    · have hlt : i < rem.reverse.length := (List.getElem?_eq_some_iff.mp hu).1
      rw [List.reverse_cons, List.getElem?_append_left hlt]; exact hu
    · have k2 : Kp (· = S) s1 { s1 with heap := s1.heap.update S (Obj.mapSeq (·.push v)) } := kq.kp (tk := s1.toks) (V.high hBz)
      exact ((toB kx).trans (k2.kx g0) fun b e => .inl (e ▸ hBS)).trans kx' fun b z => .inl z

/-- list() of a generator -/
theorem listGen {A : Around} {g0 : Nat} (V : W.Ok) (r : Rm (m + 6) A) (I : Inv W s.heap) (R : Ready W m B0 L a g vs s) (hg0 : g0 ≤ g) (hB : W.B ≤ B0) (hsz : vs.length ≤ 1000) :
    wpAny W.M A (call (.type "list") [.ref a]) (fun v s' => ∃ S, v = .ref S ∧ s.heap.objs.size ≤ S ∧ Kx (fun b => B0 ≤ b) g0 s s' ∧ Inv W s'.heap ∧ s'.heap.IsList S vs.toArray) Fz s := by
  have sS : B0 ≤ s.heap.objs.size := Nat.le_trans R.lo.1 (Nat.le_of_lt R.lo.2.2.1)
  have k0 := Kp.push (s := s) { cls := .type "list", data := .seq #[] }
  have I0 := I.push V { cls := .type "list", data := .seq #[] }
  refine callType_codes (Q₁ := fun obj s₁ => obj = .ref s.heap.objs.size ∧ s₁ = { s with heap := s.heap.push { cls := .type "list", data := .seq #[] } }) F.called_list (F.typeCall_list_1 _) F.entry_list_init
    (code_list_new _ ⟨rfl, rfl⟩) fun obj s₁ h₁ => ?_
  obtain ⟨rfl, rfl⟩ := h₁
  generalize hS0 : s.heap.objs.size = S at *
  have hS : (s.heap.push { cls := .type "list", data := .seq #[] }).get? S = some { cls := .type "list", data := .seq #[] } := by rw [← hS0]; exact Heap.get?_push_size _ rfl
  have hR := R.step I k0
  have hSa : S ≠ a := by rw [← hS0]; exact Nat.ne_of_gt R.lo.2.2.2
  have hSL : S ≠ L := by rw [← hS0]; exact Nat.ne_of_gt R.lo.2.2.1
  have hBz : ∀ b, b = S → W.B ≤ b := fun b e => e ▸ Nat.le_trans hB sS
  -- a change of the list alone
  have upd : ∀ {h h' : Heap} {o : Obj}, Inv W h → h.get? S = some o → (∃ xs n, o.data = .seq xs n) → o.cls = .type "list" → Heap.SameBut S h h' → Kq (· = S) h h' ∧ Inv W h' ∧ Xc (· = S) h h' := fun {h h' o} Ih ho hd hc hs => by
    have kq := Kq.one hs ho (noCode hc)
    refine ⟨kq, Ih.step V kq hBz, fun b o' e n _ => kq.keep b o' e n, kq.size, fun c' u hu => hu.sameBut hs fun q => ?_⟩
    obtain ⟨o2, ho2, hd2⟩ := hu
    obtain ⟨xs, n, hd⟩ := hd
    rw [q, ho] at ho2; cases ho2
    rw [hd] at hd2; cases hd2
  have hgen := hR.gen
  refine ⟨⟨_, hS, rfl⟩, F.args_list_init_2 _ _, ?_⟩
  show wpAny _ A.in1.in1 (do let old ← Builtin.List.listItems (.ref S); Builtin.List.listUpdate (.ref S) (fun _ => #[]); letGo old.toList.reverse; Builtin.List.listExtendWith (.ref S) (.ref a) .none) _ _ _
  refine wpAny_bind ?_
  unfold Builtin.List.listItems
  refine wpAny_bind (wpAny_seqItems hS rfl (wpAny_pure ?_))
  show wpAny _ A.in1.in1 (updateSeq S (fun _ => #[]) >>= fun _ => letGo (#[] : Array Value).toList.reverse >>= fun _ => Builtin.List.listExtendWith (.ref S) (.ref a) .none) _ _ _
  refine wpAny_bind (wpAny_updateSeq hS rfl ?_)
  have hS1 := Heap.get?_update_self (Obj.mapSeq (fun _ => (#[] : Array Value))) hS rfl
  have sb1 : Heap.SameBut S (s.heap.push { cls := .type "list", data := .seq #[] }) ((s.heap.push { cls := .type "list", data := .seq #[] }).update S (Obj.mapSeq (fun _ => (#[] : Array Value)))) := Heap.SameBut.update ..
  obtain ⟨kq1, I1, x1⟩ := upd I0 hS ⟨_, _, rfl⟩ rfl sb1
  generalize (s.heap.push { cls := .type "list", data := .seq #[] }).update S (Obj.mapSeq (fun _ => (#[] : Array Value))) = h1 at hS1 sb1 kq1 I1 x1 ⊢
  refine wpAny_bind (wpAny_letGo ?_)
  have hT : h1.IsGen a g := hgen.sameBut sb1 (Ne.symm hSa)
  have hTy : ({ s with heap := h1 } : Shared).TypeIs (.ref a) "generator" := hT.typeIs (s := { s with heap := h1 })
  unfold Builtin.List.listExtendWith
  refine wpAny_bind (wpAny_typeOf hTy ?_)
  have e1 : Builtin.List.listSameRef (.ref S) (.ref a) = false := by simp [Builtin.List.listSameRef, hSa]
  have e2 : (Value.type "generator" == Value.type "list") = false := by decide
  have e3 : (Value.type "generator" == Value.type "tuple") = false := by decide
  simp only [e1, e2, e3, Bool.or_false, Bool.false_eq_true, if_false]
  refine wpAny_bind (wpAny_pyIter_gen hT ?_)
  refine wpAny_bind (wpAny_holding ?_)
  unfold Builtin.List.listLengthHint
  refine wpAny_bind (wpAny_specialOf hTy F.gen_no_len ?_)
  show wpAny _ A.in1.in1 (specialOf (Value.ref a) (Str.ofString "__length_hint__") >>= _) _ _ _
  refine wpAny_bind (wpAny_specialOf hTy F.gen_no_hint ?_)
  refine wpAny_pure ?_
  show wpAny _ A.in1.in1 (rule "list.extend.makes-room" >>= fun _ => Builtin.List.listTouch (.ref S) >>= fun _ =>
    again (.builtin "list.extend.loop" ⟨[.ref S, .ref a, .none], []⟩)) _ _ _
  refine wpAny_bind (wpAny_rule ?_)
  refine wpAny_bind ?_
  show wpAny _ A.in1.in1 (updateSeq S (·.push .none) >>= fun _ => updateSeq S (·.pop)) _ _ _
  refine wpAny_bind (wpAny_updateSeq hS1 rfl ?_)
  have hS2 := Heap.get?_update_self (Obj.mapSeq (·.push Value.none)) hS1 rfl
  have sb2 : Heap.SameBut S h1 (h1.update S (Obj.mapSeq (·.push Value.none))) := Heap.SameBut.update ..
  obtain ⟨kq2, I2, x2⟩ := upd I1 hS1 ⟨_, _, rfl⟩ rfl sb2
  generalize h1.update S (Obj.mapSeq (·.push Value.none)) = h2 at hS2 sb2 kq2 I2 x2 ⊢
  refine wpAny_updateSeq (hz := by seq_fits) hS2 rfl ?_
  have hS3 := Heap.get?_update_self (Obj.mapSeq (·.pop)) hS2 rfl
  have sb3 : Heap.SameBut S h2 (h2.update S (Obj.mapSeq (·.pop))) := Heap.SameBut.update ..
  obtain ⟨kq3, I3, x3⟩ := upd I2 hS2 ⟨_, _, rfl⟩ rfl sb3
  generalize h2.update S (Obj.mapSeq (·.pop)) = h3 at hS3 sb3 kq3 I3 x3 ⊢
  have kq : Kq (· = S) (s.heap.push { cls := .type "list", data := .seq #[] }) h3 := (kq1.trans kq2 fun b z => .inl z).trans kq3 fun b z => .inl z
  have xx := (x1.trans x2).trans x3
  have hsz3 : S < h3.objs.size := Heap.lt_size hS3
  have rr : Rm (m + 2) A.in1.in1 := (r.in1.in1).le (by first | decide | omega)
  have x0 : Xc (· = S) s.heap (s.heap.push { cls := .type "list", data := .seq #[] }) := k0.xc I
  have G := R.at_ A.in1.in1 rr (· = S) (fun b e => by rw [hS0]; exact Nat.le_of_eq e.symm) { s with heap := h3 } (x0.trans xx) I3 (fun x e => e) fun b e => e ▸ hsz3
  refine wpAny_pure ⟨plainId_quiet F.plain_extend_loop _, extLoop (p := ⟨B0, L, a, (· = S)⟩) (A := A.in1) (g0 := g0) V .none r.in1.in1.hd (r.in1.in1.depth) hg0 rfl hSL sS R.lo.1 hB vs { s with heap := h3 } [] _ I3 G (fun i v e => e) hS3 (by simp; omega) fun s' c' kx I' hS' => ?_⟩
  refine ⟨rfl, S, rfl, Nat.le_refl _, ?_, I', ⟨_, hS', rfl, _, by simp; rfl⟩⟩
  have k3 : Kp (· = S) { s with heap := s.heap.push { cls := .type "list", data := .seq #[] } } { s with heap := h3 } := kq.kp (s := { s with heap := s.heap.push { cls := .type "list", data := .seq #[] } }) (tk := s.toks) (V.high hBz)
  have kk : Kp (fun b => B0 ≤ b) s { s with heap := h3 } := (k0.weaken fun b z => z.elim : Kp (fun b => B0 ≤ b) s _).trans k3 fun b e => .inl (e ▸ sS)
  exact (kk.kx g0).trans kx fun b z => .inl z
end
end Mine
end
section -- S19
open PySem PySem.W PyProof.Rows PySem.Calls PySem.Spec
set_option Elab.async false
set_option maxRecDepth 100000
set_option linter.unusedVariables false
set_option autoImplicit false
set_option pp.maxSteps 600
namespace Mine
structure MvN (Y Y' : Addr → Prop) (h h' : Heap) : Prop where
  y : ∀ b, Y' b → Y b ∨ h.objs.size ≤ b
  k : ∀ b o, h.get? b = some o → ((∀ vs, o.data ≠ .fields vs) ∨ o.cls = .type "slice") → ¬ Y b → ¬ isTab b → h'.get? b = some o
theorem MvN.av {Y Y' : Addr → Prop} {h h' : Heap} (m : MvN Y Y' h h') {a : Addr} {o : Obj} (e : h.get? a = some o) (nf : (∀ vs, o.data ≠ .fields vs) ∨ o.cls = .type "slice") (v : Av Y a) : Av Y' a ∧ h'.get? a = some o :=
  ⟨⟨fun z => (m.y a z).elim v.1 fun q => absurd (Heap.lt_size e) (Nat.not_lt.mpr q), v.2⟩, m.k a o e nf v.1 v.2⟩
mutual
theorem D.Is.moveN {Y Y' : Addr → Prop} {h h' : Heap} (m : MvN Y Y' h h') : ∀ {d : D} {v : Value}, D.Is Y h d v → D.Is Y' h' d v
  | .val u, v, x => by simpa only [D.Is] using x
  | .int i, v, x => by simpa only [D.Is] using x
  | .str i, v, x => by simpa only [D.Is] using x
  | .tup l, v, x => by
    simp only [D.Is] at x ⊢
    obtain ⟨a, vs, e, av, ⟨o, ho, hc, n, hd⟩, il⟩ := x
    have q := m.av ho (.inl (by rw [hd]; simp)) av
    exact ⟨a, vs, e, q.1, ⟨o, q.2, hc, n, hd⟩, D.IsL.moveN m il⟩
  | .lst l, v, x => by
    simp only [D.Is] at x ⊢
    obtain ⟨a, vs, e, av, ⟨o, ho, hc, n, hd⟩, il⟩ := x
    have q := m.av ho (.inl (by rw [hd]; simp)) av
    exact ⟨a, vs, e, q.1, ⟨o, q.2, hc, n, hd⟩, D.IsL.moveN m il⟩
  | .qn l, v, x => by
    simp only [D.Is] at x ⊢
    obtain ⟨a, dx, hs, kt, t, n, e, av, av2, ho, hd⟩ := x
    have q := m.av ho (.inl (by simp)) av
    have q2 := m.av hd (.inl (by simp)) av2
    exact ⟨a, dx, hs, kt, t, n, e, q.1, q2.1, q.2, q2.2⟩
  | .thing d, v, x => by
    simp only [D.Is] at x ⊢
    obtain ⟨a, dx, fd, hs, kt, u, n, e, av, av2, ho, hd, id⟩ := x
    have q := m.av ho (.inl (by simp)) av
    have q2 := m.av hd (.inl (by simp)) av2
    exact ⟨a, dx, fd, hs, kt, u, n, e, q.1, q2.1, q.2, q2.2, D.Is.moveN m id⟩
  | .ex u d, v, x => by
    simp only [D.Is] at x ⊢
    exact ⟨x.1, D.Is.moveN m x.2⟩
  | .slc lo hi, v, x => by
    simp only [D.Is] at x ⊢
    obtain ⟨a, vl, vu, e, av, ho, p, q⟩ := x
    have w := m.av ho (.inr rfl) av
    exact ⟨a, vl, vu, e, w.1, w.2, p, q⟩
theorem D.IsL.moveN {Y Y' : Addr → Prop} {h h' : Heap} (m : MvN Y Y' h h') : ∀ {l : List D} {vs : List Value}, D.IsL Y h l vs → D.IsL Y' h' l vs
  | [], vs, x => by simpa only [D.IsL] using x
  | d :: l, vs, x => by
    simp only [D.IsL] at x ⊢
    obtain ⟨v, r, e, a, b⟩ := x
    exact ⟨v, r, e, D.Is.moveN m a, D.IsL.moveN m b⟩
end
section
variable {W : Wd} {f : Fd} {ρ : List Vr} {μ : Mu} {k m B0 : Nat} {L a : Addr} {g : Nat} {vs : List Value}
theorem compGen {A : Around} {s : Shared} {elt iter : Expr} {x : Str} {px : Pos} {scope : Scope} {pos : Pos} {ds : List D} {g0 : Nat} (V : W.Ok) (r : Rm k A) (hm : m + 2 ≤ k) (gf : D → D) (I : Inv W s.heap) (F : Fm W f ρ μ s.heap) (hit : Ev W k f ρ iter (.val (.ref a)))
    (R : Ready W m B0 L a g vs s) (hg0 : g0 ≤ g) (hB : W.B ≤ B0) (hds : D.IsL (fun b => Yo f μ b ∨ (B0 ≤ b ∧ b < s.heap.objs.size)) s.heap ds vs) (hclos : closureFor scope f.env = pure [])
    (hturn : ∀ d ∈ ds, ∀ X C Lo, Ev W k (fdC f scope [] [x] X C Lo) [.val d] elt (gf d))
    (hx : scope.names.lookup x = some .local) (hsz : ds.length ≤ 1000) (hcell : ∀ y ∈ scope.names, y.2 ≠ .cell := by decide) (hkind : scope.kind = .function := by rfl)
    (hnames : ∀ y ∈ scope.names, y.2 = .local → scope.names.lookup y.1 = some .local := by decide)
    (hs : ∀ x, foldedSetIterable iter f.env x = pure x := by intro _; rfl) :
    wpAny W.M A (eval (.ListComp elt [⟨.Name x px, iter, [], 0⟩] scope pos) f.env) (fun v s' => Kx (fun b => B0 ≤ b) g0 s s' ∧ Inv W s'.heap ∧ (D.lst (ds.map gf)).Is (Yo f μ) s'.heap v) Fz s := by
  have hlen := hds.length
  rw [eval_ListComp]
  refine wpAny_comprehension_free (use := none) rfl hs hclos hkind hnames (hit.use r I F fun xv s1 k1 I1 F1 i1 => ?_)
  obtain rfl := D.Is.val_iff.mp i1
  have R1 := R.step I k1
  refine wpAny_pyIter_gen R1.gen ?_
  refine wpAny_newObj_type (wpAny_newFunctionEnv hcell (by intro y hy; simp at hy) (fun h3 hns3 hsb3 => ?_) hkind)
  dsimp only at hns3 hsb3 ⊢
  have R1lo := R1.lo
  generalize hD : s1.heap.objs.size = Dl at *
  generalize hH2 : s1.heap.push { cls := .type "list", dict := none, data := .seq ([] : List Value).toArray } = H2 at hns3 hsb3 ⊢
  have hCs : H2.objs.size = Dl + 1 := by rw [← hH2, Heap.size_push, hD]
  generalize hC : H2.objs.size = C at *
  have hDC : (Dl : Addr) ≠ C := by rw [hCs]; exact Nat.ne_of_lt (Nat.lt_succ_self _)
  have hsD : s.heap.objs.size ≤ Dl := by rw [← hD]; exact k1.size
  have hsC : s.heap.objs.size ≤ C := by rw [hCs]; exact Nat.le_succ_of_le hsD
  have sz3 : h3.objs.size = C + 1 := by rw [hsb3.1, Heap.size_push, hC]
  have old : ∀ b o, s1.heap.get? b = some o → h3.get? b = some o := fun b o e => by
    have hlt : b < Dl := hD ▸ Heap.lt_size e
    have hb : b ≠ C := Nat.ne_of_lt (by rw [hCs]; exact Nat.lt_succ_of_lt hlt)
    rw [hsb3.2 b hb, ← hH2]
    exact Heap.get?_push_of_some _ (Heap.get?_push_of_some _ e)
  have hacc : h3.IsList Dl (List.toArray []) := by
    refine ⟨{ cls := .type "list", dict := none, data := .seq ([] : List Value).toArray }, ?_, rfl, _, rfl⟩
    rw [hsb3.2 _ hDC, ← hH2, ← hD]
    exact Heap.get?_push_of_some _ (Heap.get?_push_size _ rfl)
  have kq3 : Kq No s1.heap h3 := .all old (by rw [hD, sz3, hCs]; omega)
  have I3 : Inv W h3 := I1.step V kq3 fun _ z => z.elim
  generalize htk : s1.toks + List.length (α := Str × Value) [] = tk3 at *
  have k3 : Kp No s { s1 with heap := h3, toks := tk3 } := k1.trans0 (kq3.kp fun _ _ z => z)
  let p : Gp := ⟨B0, L, a, fun b => b = Dl ∨ b = C⟩
  let Yd : Addr → Prop := fun b => Yo f μ b ∨ (B0 ≤ b ∧ b < s.heap.objs.size)
  let X : Addr → Prop := fun b => Yd b ∨ b = Dl
  let fc := fdC f scope [] [x] X C s.heap.objs.size
  let μc : Mu := ⟨(· = C), fun _ => 0⟩
  have hBs : B0 ≤ s.heap.objs.size := Nat.le_trans R.lo.1 (Nat.le_of_lt R.lo.2.2.1)
  have hWs : W.B ≤ s.heap.objs.size := I.size
  have hYlt : ∀ b, Yo fc μc b → ∀ {n : Nat}, C < n → b < n ∧ W.B ≤ b := fun b y n hn => by
    have hD1 : Dl < n := Nat.lt_trans (by rw [hCs]; exact Nat.lt_succ_self _) hn
    have hs1 : s.heap.objs.size < n := Nat.lt_of_le_of_lt hsC hn
    rcases y with ((y | y) | y) | y
    · exact ⟨Nat.lt_trans (F.lt b y).1 hs1, (F.lt b y).2⟩
    · exact ⟨Nat.lt_trans y.2 hs1, Nat.le_trans hB y.1⟩
    · rw [y]; exact ⟨hD1, Nat.le_trans hWs hsD⟩
    · rw [show b = C from y]; exact ⟨hn, Nat.le_trans hWs hsC⟩
  have mkF : ∀ {h : Heap} {mm : Str → Option Value}, h.Ns C mm → C < h.objs.size → Fm W fc [.un] μc h := fun {h mm} hn hlt => by
    refine ⟨hkind, F.glob, F.blt, List.nodup_cons.mpr ⟨by simp, List.nodup_nil⟩, ⟨_, hn⟩, rfl, (fun q => by cases q), (fun q => by cases q), fun i y d hi hd => ?_, fun i y l _ hl => ?_, fun b y => hYlt b y hlt, fun b z => z ▸ hsC, hWs⟩
    · have := List.mem_of_getElem? hd; simp at this
    · have := List.mem_of_getElem? hl; simp at this
  have hloc : fc.env.kindOf x = some .local := lookup_relabel_local hx
  have hOcs : ∀ b, p.Oc b → s.heap.objs.size ≤ b := fun b o => by
    rcases o with o | o
    · exact o ▸ hsD
    · exact o ▸ hsC
  have G3 : GenAt W A p g (fun k => vs.reverse[k]?) vs.length { s1 with heap := h3, toks := tk3 } :=
    R.at_ A (r.le hm) p.Oc hOcs { s1 with heap := h3, toks := tk3 } (k3.xc I) I3 (fun y hy => k3.gens _ _ hy) fun b o => by
      show b < h3.objs.size
      rw [sz3]
      rcases o with o | o
      · rw [o, hCs]; exact Nat.lt_succ_of_lt (Nat.lt_succ_self _)
      · rw [o]; exact Nat.lt_succ_self _
  have tabD : ¬ isTab Dl := by obtain ⟨o, ho, hc, _⟩ := hacc; exact cls_notab I3 ho (by rw [hc]; simp)
  have loop : codeAny W.M A (.compLoop (.ListComp elt [⟨.Name x px, iter, [], 0⟩] scope pos) 0 (.ref a) (.ref Dl) fc.env) (compPost W.M A Fz none (fun v s' => Kx (fun b => B0 ≤ b) g0 s s' ∧ Inv W s'.heap ∧ (D.lst (ds.map gf)).Is (Yo f μ) s'.heap v) (.ref Dl) C) { s1 with heap := h3, toks := tk3 } := by
    refine compLoop_my (fun kk s' => ∃ i ys, kk = ds.length - i ∧ i ≤ ds.length ∧ Inv W s'.heap ∧ Fm W fc [.un] μc s'.heap ∧ GenAt W A p g (fun k => vs.reverse[k]?) (vs.length - i) s' ∧ Kx (fun b => B0 ≤ b) g0 s s' ∧
      s'.heap.IsList Dl (List.toArray ys) ∧ D.IsL (Yo fc μc) s'.heap ((ds.take i).map gf) ys) ?_ ds.length ⟨0, [], by simp, by simp, I3, mkF hns3 (by rw [sz3]; exact Nat.lt_succ_self _), G3, (k3.weaken fun b z => z.elim : Kp (fun b => B0 ≤ b) s _).kx g0, hacc, by simpa using D.IsL.nil⟩
    rintro kk s' ⟨i, ys, rfl, hle, I', F', G', k', hl', il'⟩
    have zb : ∀ {h : Heap} {b : Addr}, p.Zw h b → B0 ≤ b := fun z => z.elim (fun e => e ▸ R.lo.1) fun z => z.1
    have hLs : L < s.heap.objs.size := R.lo.2.2.1
    have notZ : ∀ {h : Heap} {b : Addr}, (b = Dl ∨ b = C) → ¬ p.Zw h b := fun {h b} e z => by
      have hb : s.heap.objs.size ≤ b := hOcs b e
      rcases z with z | z
      · have z' : b = L := z
        exact absurd hLs (Nat.not_lt.mpr (z' ▸ hb))
      · exact z.2.2.1 e
    obtain ⟨m', hm'⟩ := F'.ns
    have ntC : ¬ isTab C := ns_notab I' hm'
    rcases Nat.lt_or_ge i ds.length with hil | hil
    · obtain ⟨d, hdi⟩ : ∃ d, ds[i]? = some d := ⟨_, List.getElem?_eq_getElem hil⟩
      obtain ⟨v, hvi, iv⟩ := hds.get i hdi
      have e1 : vs.length - i = (vs.length - (i + 1)) + 1 := by omega
      rw [e1] at G'
      refine wpAny_mono (GenAt.next (g0 := g0) V r.hd r.depth I' G' hg0) (fun rr s4 q => ?_) fun _ _ z => z
      obtain ⟨v', rfl, hv, kx, I4, G4⟩ := q
      have hv' : vs.reverse[vs.length - (i + 1)]? = some v := by
        rw [List.getElem?_reverse (by omega)]
        rw [show vs.length - 1 - (vs.length - (i + 1)) = i by omega]; exact hvi
      rw [hv'] at hv; cases hv
      have kx4 : Kx (fun b => B0 ≤ b) g0 s s4 := k'.trans kx fun b z => .inl (zb z)
      refine wpAny_of_eq (a := ()) rfl ?_
      have ns4 : s4.heap.Ns C m' := hm'.at' fun o e => kx.keep _ o e (notZ (.inr rfl)) ntC
      have F4 : Fm W fc [.un] μc s4.heap := mkF ns4 ns4.lt
      have iv4 : d.Is (Yo fc μc) s4.heap v := iv.move ⟨fun b y => by
        rcases y with (y | y) | y
        · exact .inl y
        · exact .inr (y ▸ hsD)
        · exact .inr (by rw [show b = C from y]; exact hsC), fun b o e y t => kx4.keep b o e (fun z => y (.inr ⟨z, Heap.lt_size e⟩)) t⟩
      have l4 : s4.heap.IsList Dl ys.toArray := hl'.at fun o e => kx.keep _ o e (notZ (.inl rfl)) tabD
      have il4 : D.IsL (Yo fc μc) s4.heap ((ds.take i).map gf) ys := il'.moveN ⟨fun _ z => .inl z, fun b o e nf y t => kx.keep b o e (fun z => by
        rcases z with z | ⟨_, _, _, o', vs', e', hd', ns'⟩
        · exact y (.inl (.inl (.inr ⟨z ▸ R.lo.1, z ▸ hLs⟩)))
        · rw [e] at e'; cases e'; exact nf.elim (fun nf => nf _ hd') fun q => ns' q) t⟩
      refine wpAny_mono (Asn.name (n := k) V 0 rfl (.inl hloc) A r s4 μc v I4 F4 iv4) (fun _ s5 q => ?_) fun _ _ z => z
      obtain ⟨k5, I5, F5⟩ := q
      have m5 : Mv (Yo fc μc) (Yo fc μc) s4.heap s5.heap := ⟨fun _ z => .inl z, fun b o e y t => k5.keep b o e (fun z => y (.inr z.1)) t⟩
      have l5 : s5.heap.IsList Dl ys.toArray := l4.at fun o e => k5.keep _ o e (fun q => hDC q.1) tabD
      have il5 := il4.move m5
      refine wpAny_tests_nil ?_
      simp only [if_true]
      refine (hturn d (List.mem_of_getElem? hdi) X C s.heap.objs.size).use r I5 F5 fun y s7 k7 I7 F7 i7 => ?_
      have m7 : Mv (Yo fc μc) (Yo fc μc) s5.heap s7.heap := Mv.of_kp k7
      have l7 : s7.heap.IsList Dl ys.toArray := l5.at fun o e => k7.keep _ o e (fun q => q) tabD
      have il7 := il5.move m7
      have hys : ys.length ≤ 1000 := by
        have e1 := il7.length
        rw [e1, List.length_map, List.length_take]; omega
      refine wpAny_list_append (hsz := by simp; unfold sizeLine; omega) l7 fun h8 l8 hs8 => ?_
      obtain ⟨oD, hoD, hcD⟩ := list_noCode l7
      have kq8 : Kq (fun b => b = Dl) s7.heap h8 := Kq.one hs8 hoD hcD
      have hBD : ∀ b, b = Dl → W.B ≤ b := fun b e => e ▸ Nat.le_trans I.size hsD
      have k8 : Kp (fun b => b = Dl) s7 { s7 with heap := h8 } := kq8.kp (tk := s7.toks) (V.high hBD)
      have m8 : Mv (Yo fc μc) (Yo fc μc) s7.heap h8 := ⟨fun _ z => .inl z, fun b o e y _ => kq8.keep b o e fun q => y (.inl (.inr q))⟩
      have I8 := I7.step V kq8 hBD
      obtain ⟨m7', hm7'⟩ := F7.ns
      have ns8 : h8.Ns C m7' := hm7'.sameBut hs8 (Ne.symm hDC)
      -- the generator is as it was
      have x5 : Xc p.Oc s4.heap s5.heap := ⟨fun b o e n t => k5.keep b o e (fun z => n (.inr z.1)) t, k5.size, fun c u hc => let ⟨o, ho, hd⟩ := hc; ⟨o, k5.keep _ _ ho (fun z => by
        obtain ⟨o1, es, ep, h1, h2, _⟩ := ns4
        rw [show c = C from z.1, h1] at ho; cases ho; rw [h2] at hd; cases hd) (cell_notab I4 hc), hd⟩⟩
      have x8 : Xc p.Oc s7.heap h8 := ⟨fun b o e n _ => kq8.keep b o e (fun q => n (.inl q)), kq8.size, fun c u hc => hc.sameBut hs8 (fun q => by
        obtain ⟨o, ho, hd⟩ := hc
        obtain ⟨o2, ho2, _, n2, hd2⟩ := l7
        rw [q, ho2] at ho; cases ho; rw [hd2] at hd; cases hd)⟩
      have G8 : GenAt W A p g (fun k => vs.reverse[k]?) (vs.length - (i + 1)) { s7 with heap := h8 } :=
        G4.step ((x5.trans (k7.xc I5)).trans x8) I4 fun y hy => k7.gens _ _ (k5.gens _ _ hy)
      refine ⟨ds.length - (i + 1), by omega, i + 1, ys ++ [y], rfl, hil, I8, mkF ns8 ns8.lt, G8, ?_, by simpa using l8, ?_⟩
      · have k58 : Kp (fun b => B0 ≤ b) s4 { s7 with heap := h8 } := ((k5.weaken' fun b z => by rw [show b = C from z.1]; exact Nat.le_trans hBs hsC).trans k7 fun b z => z.elim).trans k8 fun b e => .inl (e ▸ Nat.le_trans hBs hsD)
        exact kx4.trans (k58.kx g0) fun b z => .inl z
      · rw [List.take_add_one, hdi, List.map_append]
        exact D.IsL.append (il7.move m8) (D.IsL.cons (i7.move m8) D.IsL.nil)
    · have hi' : i = ds.length := by omega
      have e0 : vs.length - i = 0 := by omega
      rw [e0] at G'
      refine wpAny_mono (GenAt.done (g0 := g0) V r.hd r.depth I' G' hg0) (fun rr s4 q => ?_) fun _ _ z => z
      obtain ⟨rfl, kx, I4⟩ := q
      have ns4 : s4.heap.Ns C m' := hm'.at' fun o e => kx.keep _ o e (notZ (.inr rfl)) ntC
      refine ⟨m', ns4, fun h' hs' => ?_⟩
      obtain ⟨oC, hoC, hcC⟩ := ns_noCode ns4
      have hCB : ∀ b, b = C → W.B ≤ b := fun b e => e ▸ Nat.le_trans hWs hsC
      have kqC : Kq (fun b => b = C) s4.heap h' := Kq.one hs' hoC hcC
      have kC : Kp (fun b => b = C) s4 { s4 with heap := h' } := kqC.kp (tk := s4.toks) (V.high hCB)
      refine ⟨(k'.trans kx fun b z => .inl (zb z)).trans (kC.kx g0) fun b e => .inl (e ▸ Nat.le_trans hBs hsC), I4.step V kqC hCB, ?_⟩
      have l4 : s4.heap.IsList Dl ys.toArray := hl'.at fun o e => kx.keep _ o e (notZ (.inl rfl)) tabD
      have il4 : D.IsL (Yo fc μc) s4.heap ((ds.take i).map gf) ys := il'.moveN ⟨fun _ z => .inl z, fun b o e nf y t => kx.keep b o e (fun z => by
        rcases z with z | ⟨_, _, _, o', vs', e', hd', ns'⟩
        · exact y (.inl (.inl (.inr ⟨z ▸ R.lo.1, z ▸ hLs⟩)))
        · rw [e] at e'; cases e'; exact nf.elim (fun nf => nf _ hd') fun q => ns' q) t⟩
      rw [hi', List.take_length] at il4
      simp only [D.Is]
      refine ⟨Dl, ys, rfl, ⟨fun y => absurd (F.lt _ y).1 (Nat.not_lt.mpr hsD), tabD⟩, l4.extBut hs'.extBut hDC, ?_⟩
      exact il4.move ⟨fun b y => .inl (.inl (.inl (.inl y))), fun b o e y _ => (hs'.2 b fun q => y (.inr q)).trans e⟩
  exact codeAny_compStart_list loop (wpAny_pyIter_gen (s := { s1 with heap := h3, toks := tk3 }) (E := notedBy W.M A fc.env fun x s' => (compPost W.M A Fz none (fun v s' => Kx (fun b => B0 ≤ b) g0 s s' ∧ Inv W s'.heap ∧ (D.lst (ds.map gf)).Is (Yo f μ) s'.heap v) (.ref Dl) C) (.error x) s') G3.gen loop)
end
end Mine
end
section -- S20
open PySem.Builtin.ObjectAttr PySem.Builtin
open PySem PySem.W PyProof.Rows PySem.Calls PySem.Spec
set_option Elab.async false
set_option maxRecDepth 100000
set_option linter.unusedVariables false
set_option autoImplicit false
set_option pp.maxSteps 600
namespace Mine
theorem slot_fn_get : Slot "function" "__getattribute__" "object.__getattribute__" :=
  .of (owner := "object") (n := "__getattribute__") (by rw [typeLookup_type, builtinLookup_eq_fast]; kernel_rfl) (by decide +kernel) (by decide +kernel) (by decide +kernel)
    (by first | exact .inl (by decide +kernel) | exact .inr (by decide +kernel)) (by rw [isSubtype_type]; kernel_rfl)
theorem args_oga (a b : Value) : argsOk "object.__getattribute__" ⟨[a, b], []⟩ := by unfold argsOk; kernel_rfl
theorem slot_fn_set : Slot "function" "__setattr__" "object.__setattr__" :=
  .of (owner := "object") (n := "__setattr__") (by rw [typeLookup_type, builtinLookup_eq_fast]; kernel_rfl) (by decide +kernel) (by decide +kernel) (by decide +kernel)
    (by first | exact .inl (by decide +kernel) | exact .inr (by decide +kernel)) (by rw [isSubtype_type]; kernel_rfl)
theorem args_osa (a b c : Value) : argsOk "object.__setattr__" ⟨[a, b, c], []⟩ := by unfold argsOk; kernel_rfl
theorem fn_tag : typeLookup (.type "function") (S "tag") = pure none := by rw [typeLookup_type, builtinLookup_eq_fast]; kernel_rfl
section
variable {W : Wd} {f : Fd} {ρ : List Vr} {μ : Mu} {n : Nat}
theorem getTag {A : Around} {s : Shared} {a dx : Addr} {fd : FuncData} {hs : Int} {kt : Tok} {u : Value} {k : Nat} {Q : Value → Shared → Prop} (ho : s.heap.get? a = some ⟨.type "function", some dx, .func fd, #[]⟩) (hd : s.heap.get? dx = some (dictOf [⟨hs, .str "tag" kt, u⟩] k))
    (hu : handedIn u = true) (h : ∀ tk, Q u { s with toks := tk }) : wpAny W.M A (getAttr (.ref a) "tag" true) Q Fz s := by
  have hT : ({ s with toks := s.toks + 1 } : Shared).TypeIs (.ref a) "function" := ⟨_, ho, rfl⟩
  unfold getAttr getAttrBy
  refine wpAny_bind (wpAny_mkText (wpAny_holding (wpAny_bind (wpAny_typeOf hT (wpAny_bind (wpAny_of_eq slot_fn_get.lookup ?_))))))
  show wpAny _ _ (getAttrByItsOwn _ _ _ _ _ _) _ _ _
  unfold getAttrByItsOwn
  refine wpAny_bind (wpAny_of_eq (a := none) rfl (wpAny_bind (wpAny_attempt (wpAny_holding ?_))))
  unfold callGetattribute
  show wpAny _ _ (boundAndCalled _ _ _) _ _ _
  unfold boundAndCalled
  rw [slot_fn_get.bind]
  refine wpAny_bind (wpAny_pure ?_)
  show wpAny _ _ (call (.builtin "object.__getattribute__") [.ref a, .str "tag" s.toks]) _ _ _
  refine wpAny_call_entry slot_fn_get hT F.entry_object_getattribute ?_ (args_oga _ _)
  unfold Builtin.«object.__getattribute__»
  refine wpAny_bind (wpAny_of_eq (a := (.ref a, [.str "tag" s.toks])) rfl ?_)
  refine wpAny_bind (wpAny_of_eq (a := S "tag") rfl ?_)
  refine wpAny_bind (wpAny_typeOf hT ?_)
  refine wpAny_bind ?_
  unfold find
  refine wpAny_bind (wpAny_of_eq fn_tag ?_)
  refine wpAny_bind (wpAny_of_eq (a := none) rfl ?_)
  refine wpAny_bind (wpAny_of_eq (a := none) rfl ?_)
  show wpAny _ _ (ownThenClass _ _ _ _) _ _ _
  unfold ownThenClass
  have own : ∀ {Q' : Option Value → Shared → Prop} {E' : Value → Shared → Prop}, Q' (some u) { s with toks := s.toks + 1 } → wpAny W.M A.in1 (inOwnDict (S "tag") (.ref a)) Q' E' { s with toks := s.toks + 1 } := fun {Q' E'} q => by
    refine wpAny_bind (wpAny_bind (wpAny_loadPart ho ?_))
    show wpAny _ _ (instanceDict a false) _ _ _
    unfold instanceDict
    refine wpAny_bind (wpAny_loadPart ho ?_)
    dsimp only
    refine wpAny_pure (a := some dx) ?_
    refine wpAny_bind (wpAny_loadPart hd ?_)
    rw [nsLook_of (r := some u) ?_]
    · exact wpAny_pure q
    · unfold lookIn dictOf; rfl
  refine wpAny_bind (own ?_)
  refine wpAny_bind (wpAny_rule (wpAny_pure ?_))
  refine wpAny_pure ⟨u, rfl, ?_⟩
  show wpAny _ _ (handedOut u) _ _ _
  rw [handedOut_of hu]; exact wpAny_pure (h _)
end
end Mine
end
section -- S21
open PySem.Builtin.ObjectAttr PySem.Builtin
open PySem PySem.W PyProof.Rows PySem.Calls PySem.Spec
set_option Elab.async false
set_option maxRecDepth 100000
set_option linter.unusedVariables false
set_option autoImplicit false
set_option pp.maxSteps 900
namespace Mine
section
variable {W : Wd} {f : Fd} {ρ : List Vr} {μ : Mu} {n : Nat}
theorem setTag {A : Around} {s : Shared} {a : Addr} {fd : FuncData} {v : Value} {Q : Unit → Shared → Prop} (ho : s.heap.get? a = some ⟨.type "function", none, .func fd, #[]⟩)
    (h : ∀ h' tk hs kt k, h'.get? a = some ⟨.type "function", some s.heap.objs.size, .func fd, #[]⟩ → h'.get? s.heap.objs.size = some (dictOf [⟨hs, .str "tag" kt, v⟩] k) → (∀ b o, b ≠ a → s.heap.get? b = some o → h'.get? b = some o) → s.heap.objs.size ≤ h'.objs.size → Q () { s with heap := h', toks := tk }) : wpAny W.M A (setAttr (.ref a) "tag" v) Q Fz s := by
  have hT : ({ s with toks := s.toks + 1 } : Shared).TypeIs (.ref a) "function" := ⟨_, ho, rfl⟩
  unfold setAttr
  refine wpAny_bind (wpAny_mkText (wpAny_bind (wpAny_callSpecial?_slot (name := S "__setattr__") hT slot_fn_set (wpAny_call_entry slot_fn_set hT F.entry_object_setattr ?_ (args_osa _ _ _)))))
  unfold Builtin.«object.__setattr__»
  show wpAny _ _ (refuseIfOverridden (.ref a) (S "__setattr__") >>= _) _ _ _
  refine wpAny_bind ?_
  unfold refuseIfOverridden
  refine wpAny_bind (wpAny_typeOf hT ?_)
  refine wpAny_of_eq (a := ()) (by kernel_rfl) ?_
  refine wpAny_bind (wpAny_of_eq (a := S "tag") rfl ?_)
  refine wpAny_bind (wpAny_typeOf hT ?_)
  refine wpAny_bind (wpAny_of_eq fn_tag ?_)
  refine wpAny_bind (wpAny_of_eq (a := none) rfl ?_)
  show wpAny _ _ (storeInOwnDict _ _ _ _ _ _) _ _ _
  unfold storeInOwnDict
  refine wpAny_bind (wpAny_of_eq (a := ()) rfl ?_)
  rw [if_neg (by decide)]
  refine wpAny_bind ?_
  show wpAny _ _ (instanceDict a true) _ _ _
  unfold instanceDict
  refine wpAny_bind (wpAny_loadPart ho ?_)
  dsimp only
  rw [if_neg (by decide +kernel)]
  refine wpAny_bind (wpAny_alloc ?_)
  have k1 : ∀ b o, s.heap.get? b = some o → (s.heap.push { cls := .type "dict", data := .dict #[] }).get? b = some o := fun b o e => Heap.get?_push_of_some _ e
  have ho1 := k1 _ _ ho
  refine wpAny_bind (wpAny_update ho1 ?_)
  refine wpAny_of_eq (a := some s.heap.objs.size) (by kernel_rfl) ?_
  dsimp only
  have hne : s.heap.objs.size ≠ a := Nat.ne_of_gt (Heap.lt_size ho)
  have hd0 : (s.heap.push { cls := .type "dict", data := .dict #[] }).get? s.heap.objs.size = some { cls := .type "dict", data := .dict #[] } := Heap.get?_push_size _ rfl
  have ho2 : ((s.heap.push { cls := .type "dict", data := .dict #[] }).update a fun o => { o with dict := some s.heap.objs.size }).get? a = some ⟨.type "function", some s.heap.objs.size, .func fd, #[]⟩ := Heap.get?_update_self _ ho1 rfl
  have hd2 : ((s.heap.push { cls := .type "dict", data := .dict #[] }).update a fun o => { o with dict := some s.heap.objs.size }).get? s.heap.objs.size = some { cls := .type "dict", data := .dict #[] } := (Heap.get?_update_other _ _ (Ne.symm hne)).trans hd0
  have k2 : ∀ b o, b ≠ a → s.heap.get? b = some o → ((s.heap.push { cls := .type "dict", data := .dict #[] }).update a fun o => { o with dict := some s.heap.objs.size }).get? b = some o := fun b o hb e => (Heap.get?_update_other _ _ (Ne.symm hb)).trans (k1 b o e)
  have z2 : s.heap.objs.size + 1 = ((s.heap.push { cls := .type "dict", data := .dict #[] }).update a fun o => { o with dict := some s.heap.objs.size }).objs.size := by rw [Heap.size_after_update, Heap.size_push]
  generalize (s.heap.push { cls := .type "dict", data := .dict #[] }).update a (fun o => { o with dict := some s.heap.objs.size }) = h2 at ho2 hd2 k2 z2 ⊢
  show wpAny _ _ (storeInDict _ _ _ _) _ _ _
  unfold storeInDict
  refine wpAny_bind (wpAny_of_eq (a := ()) rfl ?_)
  unfold nsSet
  refine wpAny_bind (wpAny_bind (wpAny_bind (wpAny_askSetting (wpAny_pure (wpAny_bind (wpAny_mkText (wpAny_bind (wpAny_loadPart hd2 ?_))))))))
  dsimp only
  rw [if_neg (by decide +kernel)]
  refine wpAny_updatePart hd2 ?_
  have hp : Obj.putName (S "tag") (PyData.keyHash W.w.params (S "tag")) (.str (S "tag") (s.toks + 1)) v { cls := .type "dict", data := .dict #[] } = dictOf [⟨PyData.keyHash W.w.params (S "tag"), .str (S "tag") (s.toks + 1), v⟩] 1 :=
    putName_dict (S "tag") (PyData.keyHash W.w.params (S "tag")) (.str (S "tag") (s.toks + 1)) v [] 0
  have hd3 := Heap.get?_update_self (Obj.putName (S "tag") (PyData.keyHash W.w.params (S "tag")) (.str (S "tag") (s.toks + 1)) v) hd2 (by rw [hp]; rfl)
  rw [hp] at hd3
  refine wpAny_bind (wpAny_lookBehind hd3 (pastItsLine_dict (by simp)) (wpAny_pure ⟨.none, rfl, wpAny_pure (h _ _ _ _ _ ?_ hd3 (fun b o hb e => ?_) ?_)⟩))
  · exact (Heap.get?_update_other _ _ hne).trans ho2
  · exact (Heap.get?_update_other _ _ (Nat.ne_of_gt (Heap.lt_size e))).trans (k2 b o hb e)
  · rw [Heap.size_after_update, ← z2]; exact Nat.le_succ _
end
end Mine
end
section -- S22
open PySem PySem.W PyProof.Rows PySem.Calls PySem.Spec
set_option Elab.async false
set_option maxRecDepth 100000
set_option linter.unusedVariables false
set_option autoImplicit false
set_option pp.maxSteps 900
namespace Mine
section
variable {W : Wd} {f : Fd} {ρ : List Vr} {μ : Mu} {n : Nat}
/-- data that an attribute hands on as it is -/
noncomputable def Handed (d : D) : Prop := ∀ Y h u, D.Is Y h d u → handedIn u = true
theorem Handed.str {x : Str} : Handed (.str x) := fun Y h u i => by obtain ⟨t, rfl⟩ := D.Is.str_iff.mp i; rfl
theorem Handed.none : Handed D.none := fun Y h u i => by obtain rfl := D.Is.val_iff.mp i; rfl
theorem Handed.qn {x : Str} : Handed (.qn x) := fun Y h u i => by simp only [D.Is] at i; obtain ⟨a, _, _, _, _, _, rfl, _⟩ := i; rfl
theorem Ev.tag {e : Expr} {pos : Pos} {d : D} (h : Ev W n f ρ e (.thing d)) (hd : Handed d)
    (he : eval (.Attribute e "tag" pos) f.env = (do let o ← eval e f.env; standAt pos.atName; let r ← holding [o] (getAttr o "tag" true); letTemporaryGo e o r; pure r) := by with_unfolding_all rfl) : Ev W n f ρ (.Attribute e "tag" pos) d := by
  intro A r s μ I F
  refine Attribute_any_ (h.use r I F fun v s1 k1 I1 F1 i1 => ?_) he
  simp only [D.Is] at i1
  obtain ⟨a, dx, fd, hs, kt, u, k, rfl, av, av2, ho, hdx, id⟩ := i1
  exact getTag ho hdx (hd _ _ _ id) fun tk => ⟨k1.trans0 (Kp.toks _ _), I1, id⟩
theorem Ev.text {e : Expr} {pos : Pos} {x : Str} (h : Ev W n f ρ e (.qn x))
    (he : eval (.Attribute e "text" pos) f.env = (do let o ← eval e f.env; standAt pos.atName; let r ← holding [o] (getAttr o "text" true); letTemporaryGo e o r; pure r) := by with_unfolding_all rfl) : Ev W n f ρ (.Attribute e "text" pos) (.str x) := by
  intro A r s μ I F
  refine Attribute_any_ (h.use r I F fun v s1 k1 I1 F1 i1 => ?_) he
  simp only [D.Is] at i1
  obtain ⟨a, dx, hs, kt, t, k, rfl, av, av2, ho, hdx⟩ := i1
  have In : InstAt s1.heap a (instObj QN dx) QN (some (dictOf [⟨hs, .str "text" kt, .str x t⟩] k)) := ⟨ho, rfl, rfl, hdx⟩
  exact get_value I1.K In (by kernel_rfl) (findObj_own (attr := Option.none) (by kernel_rfl) (by kernel_rfl) rfl rfl) rfl ⟨k1.trans0 (Kp.toks _ _), I1, D.Is.str⟩
end
end Mine
end
section -- S23
open PySem PySem.W PyProof.Rows PySem.Calls PySem.Spec
set_option Elab.async false
set_option maxRecDepth 100000
set_option linter.unusedVariables false
set_option autoImplicit false
set_option pp.maxSteps 900
namespace Mine
section
variable {W : Wd} {f : Fd} {ρ ρ' : List Vr} {μ : Mu} {n : Nat}
theorem Fb.str {x : Str} (h : x.length ≤ 1000) : Fb W n truthy (.str x) ((x.length : Int) != 0) := by
  intro A r s Y v1 I y i1
  obtain ⟨t, rfl⟩ := D.Is.str_iff.mp i1
  exact P.truthy_str (by omega) ⟨rfl, Kp.toks _ _, I⟩
/-- '{%s}%s' % (a, b) -/
noncomputable def qtext (a b : Str) : Str := S "{" ++ a ++ S "}" ++ b
/-- all other objects -/
noncomputable def others (h : Heap) (L d : Addr) : List (Addr × Obj) := (List.range h.objs.size).filterMap fun a => if a = L ∨ a = d then none else (h.get? a).map fun o => (a, o)
theorem mem_others {h : Heap} {L d b : Addr} {o : Obj} : (b, o) ∈ others h L d ↔ h.get? b = some o ∧ b ≠ L ∧ b ≠ d := by
  unfold others
  rw [List.mem_filterMap]
  constructor
  · rintro ⟨a, ha, e⟩
    split at e
    · cases e
    · rename_i hn
      obtain ⟨o', ho, e⟩ := Option.map_eq_some_iff.mp e
      cases e
      exact ⟨ho, fun q => hn (.inl q), fun q => hn (.inr q)⟩
  · rintro ⟨e, h1, h2⟩
    refine ⟨b, List.mem_range.mpr (Heap.lt_size e), ?_⟩
    rw [if_neg (by rintro (q | q); exact h1 q; exact h2 q), e]; rfl
/-- self.text = v in a new object -/
theorem setText {A : Around} {s : Shared} {x dx L : Addr} {m : Str → Option Value} {v : Value} {Q : Unit → Shared → Prop} (I : Inv W s.heap) (hL : s.heap.Ns L m) (hx : s.heap.get? x = some (instObj QN dx)) (hd : s.heap.get? dx = some (dictOf [] 0)) (hxL : x ≠ L) (hdL : dx ≠ L) (hxd : x ≠ dx)
    (h : ∀ h' tk hs kt, h'.Ns L m → h'.get? dx = some (dictOf [⟨hs, .str "text" kt, v⟩] 1) → (∀ b o, b ≠ L → b ≠ dx → s.heap.get? b = some o → h'.get? b = some o) → Q () { s with heap := h', toks := tk }) : wpAny W.M A (setAttr (.ref x) "text" v) Q Fz s := by
  have In : InstAt s.heap x (instObj QN dx) QN (some (dictOf [] 0)) := ⟨hx, rfl, rfl, hd⟩
  let h0 : Heap := { s.heap with objs := #[] }
  have Fr0 : Fr h0 L s.heap m := ⟨hL, fun b o e => by simp [h0, Heap.get?] at e, Nat.zero_le _⟩
  have N0 : News h0 L s.heap ([] ++ (dx, dictOf [] 0) :: others s.heap L dx) := by
    intro p hp
    rcases List.mem_cons.mp hp with rfl | hp
    · exact ⟨hd, hdL, by simp [h0, Heap.get?]⟩
    · obtain ⟨b, o⟩ := p
      obtain ⟨e, h1, h2⟩ := mem_others.mp hp
      exact ⟨e, h1, by simp [h0, Heap.get?]⟩
  refine set_plain I.K In (by kernel_rfl) (osa_dict (s := { s with toks := s.toks + 1 }) (name := S "text") (es := [⟨PyData.keyHash W.w.params (S "text"), .str (S "text") (s.toks + 1), v⟩]) (n := 1) Fr0 N0 I.K In rfl (by kernel_rfl) (by kernel_rfl) (by kernel_rfl) rfl (fun p hp => by cases hp) (fun p hp => by
    obtain ⟨b, o⟩ := p; exact (mem_others.mp hp).2.2) (putName_dict (S "text") (PyData.keyHash W.w.params (S "text")) (.str (S "text") (s.toks + 1)) v [] 0) rfl (by simp) fun h' F' N' => ?_)
  show Q () _
  exact h h' _ _ _ F'.ns (show h'.get? dx = some (dictOf [⟨_, _, v⟩] 1) from (N' _ (List.mem_cons_self ..)).1) fun b o h1 h2 e => (N' (b, o) (List.mem_cons_of_mem _ (mem_others.mpr ⟨e, h1, h2⟩))).1
end
end Mine
end
section -- S24
open PySem PySem.W PyProof.Rows PySem.Calls PySem.Spec
set_option Elab.async false
set_option maxRecDepth 100000
set_option linter.unusedVariables false
set_option autoImplicit false
set_option pp.maxSteps 900
namespace Mine
section
variable {W : Wd} {f : Fd} {ρ ρ' : List Vr} {μ : Mu} {n : Nat}
theorem Ev.fmtS {e : Expr} {pos : Pos} {x : Str} (h : Ev W n f ρ e (.str x)) (hx : x.length ≤ 1000) : Ev W n f ρ (.FormattedValue e 115 none pos) (.str x) := by
  intro A r s μ I F
  rw [arm_eval_FormattedValue]
  refine wpAny_bind (h.use r I F fun v s1 k1 I1 F1 i1 => wpAny_bind (wpAny_standAt ?_))
  obtain ⟨t, rfl⟩ := D.Is.str_iff.mp i1
  have hz : x.length ≤ sizeLine := by unfold sizeLine; omega
  show wpAny _ _ (do let v' ← holding [.str x t] (habitSame "fstring-hands-on-the-str" (.str x t)); formatField v' Str.empty) _ _ s1
  refine wpAny_bind (wpAny_holding (wpAny_habitSame_str ?_ ?_ hz))
  · exact wpAny_formatField_str ⟨k1, I1, D.Is.str⟩ ⟨k1.trans0 (Kp.toks _ _), I1, D.Is.str⟩ hz
  · exact wpAny_formatField_str ⟨k1.trans0 (Kp.toks _ _), I1, D.Is.str⟩ ⟨k1.trans0 (Kp.toks s1 (s1.toks + 1 + 1)), I1, D.Is.str⟩ hz
/-- the parts of a formatted text -/
inductive EvJ (W : Wd) (n : Nat) (f : Fd) (ρ : List Vr) : List Expr → List Str → Prop
  | nil : EvJ W n f ρ [] []
  | cons {e : Expr} {es : List Expr} {x : Str} {xs : List Str} (h : Ev W n f ρ e (.str x)) (hl : EvJ W n f ρ es xs) : EvJ W n f ρ (e :: es) (x :: xs)
theorem EvJ.run {es : List Expr} {xs : List Str} (h : EvJ W n f ρ es xs) : ∀ {A : Around}, Rm n A → ∀ {s : Shared} {acc : Str} {Q : Str → Shared → Prop}, Inv W s.heap → Fm W f ρ μ s.heap → acc.length + (xs.map (·.length)).sum ≤ 100000 →
    (∀ s', Kp No s s' → Inv W s'.heap → Q (xs.foldl (· ++ ·) acc) s') → Joins W.M A Fz (evalEach es f.env) acc Q s := by
  induction h with
  | nil => intro A r s acc Q I F hz hq; exact hq s (Kp.refl _ _) I
  | @cons e es x xs h hl ih =>
    intro A r s acc Q I F hz hq
    show wpAny W.M A (eval e f.env) _ Fz s
    simp only [List.map_cons, List.sum_cons] at hz
    refine h.use r I F fun v s1 k1 I1 F1 i1 => ?_
    obtain ⟨t, rfl⟩ := D.Is.str_iff.mp i1
    have hl2 : (acc ++ x).length = acc.length + x.length := strLen_append _ _
    refine ⟨x, t, rfl, by rw [hl2]; unfold sizeLine; omega, ih r I1 F1 (by rw [hl2]; omega) fun s' k' I' => hq s' (k1.trans0 k') I'⟩
theorem Ev.joined {e1 e2 : Expr} {rest : List Expr} {pos : Pos} {xs : List Str} (h : EvJ W n f ρ (e1 :: e2 :: rest) xs) (hz : (xs.map (·.length)).sum ≤ 100000) (hz2 : (xs.foldl (· ++ ·) Str.empty).length ≤ sizeLine) :
    Ev W n f ρ (.JoinedStr (e1 :: e2 :: rest) pos) (.str (xs.foldl (· ++ ·) Str.empty)) := by
  intro A r s μ I F
  refine wpAny_JoinedStr (h.run r I F (by simpa [Str.empty, Str.length] using hz) fun s' k' I' => ⟨hz2, k'.trans0 (Kp.toks _ _), I', D.Is.str⟩)
theorem qnCore {as : List D} {a T : Str} {dt : D} {fd : FuncData} {st1 : Stmt} {p1 p2 p3 p4 : Pos} (V : W.Ok) (hfd : ∃ o, W.K.lookup 86 = some o ∧ o.data = .func fd) (hcd : ∀ h, Inv W h → h.CodeRec fd.code fd.qualname)
    (hbody : fd.body = .stmts [st1, .Assign [.Attribute (.Name (S "self") p1) (S "text") p2] (.Name (S "text_or_uri") p3) p4]) (hclo : fd.closure = []) (hgl : fd.globals = mainGlobals) (hbl : fd.builtins = builtinsNs)
    (hb : ∀ (h : Heap) Y vs, D.IsL Y h as vs → ∃ v1 v2, D.Is Y h (.str a) v1 ∧ D.Is Y h dt v2 ∧ ∀ s x, Inv W s.heap → BindsTo s fd ⟨.ref x :: vs, []⟩ ([S "self", S "text_or_uri", S "tag"].zip [.ref x, v1, v2]))
    (hkinds : kindsOk fd.scope [S "self", S "text_or_uri", S "tag"] = true) (hloc : fd.scope.names.lookup (S "text_or_uri") = some .local) (hloc2 : fd.scope.names.lookup (S "self") = some .local)
    (hst : ∀ X L x, Ex W n (fdOf fd 86 [S "self", S "text_or_uri", S "tag"] X L) (vals [.val x, .str a, dt] 0) st1 [.val (.val x), .val (.str T), .val dt])
    (hco : fd.scope.isCoroutine = false := by rfl) (hgen : fd.scope.isGenerator = false := by rfl) (hkf : fd.scope.kind = .function := by rfl) : Cl W (n + 3) (.ref 145) as (.qn T) := by
  intro A r s Y vs I y il
  obtain ⟨v1, v2, i1, i2, hbind⟩ := hb _ _ _ il
  have hMK : makesIn W.K 145 = true := by kernel_rfl
  have hIn : findIn W.K (.ref 145) "__init__" = some (some (.ref 86)) := by kernel_rfl
  have hTy : typeIn W.K (.ref 86) = some (.type "function") := by kernel_rfl
  obtain ⟨hh, g, d, t, os⟩ := s
  refine wpAny_call (make_core (makes_of I.K hMK) (looks_findIn I.K hIn) (fun self => bind_fn I.K self hTy) (.inl rfl) ?_)
  generalize hs1 : (⟨(hh.push emptyDict).push (instObj 145 hh.objs.size), g, d, t, os⟩ : Shared) = s1
  have e1 : s1.heap = (hh.push emptyDict).push (instObj 145 hh.objs.size) := by rw [← hs1]
  have k01 : Kp No ⟨hh, g, d, t, os⟩ s1 := by
    rw [← hs1]
    exact (Kp.push (s := ⟨hh, g, d, t, os⟩) emptyDict).trans0 (Kp.push (s := ⟨hh.push emptyDict, g, d, t, os⟩) (instObj 145 hh.objs.size))
  have I1 : Inv W s1.heap := by rw [e1]; exact (I.push V _).push V _
  have z1 : s1.heap.objs.size = hh.objs.size + 2 := by rw [e1, Heap.size_push, Heap.size_push]
  have hdx1 : s1.heap.get? hh.objs.size = some (dictOf [] 0) := by rw [e1]; exact Heap.get?_push_of_some _ (Heap.get?_push_size _ rfl)
  have hx1 : s1.heap.get? (hh.objs.size + 1) = some (instObj QN hh.objs.size) := by
    rw [e1]
    have := Heap.get?_push_size (hh.push emptyDict) (o := instObj 145 hh.objs.size) rfl
    rwa [Heap.size_push] at this
  have i1' := i1.step k01
  have i2' := i2.step k01
  obtain ⟨o, ho, hd⟩ := hfd
  have y1 : Yk W Y s1.heap := y.step k01
  refine fnGo (fd := fd) (nm := [S "self", S "text_or_uri", S "tag"]) (ds := [.val (.ref (hh.objs.size + 1)), .str a, dt]) (vs := [.ref (hh.objs.size + 1), v1, v2]) (k := 0) V ?_ I1 y1 (.cons D.Is.val (.cons i1' (.cons i2' .nil))) ⟨o, I1.K _ _ ho, hd⟩ (hcd _ I1) hbody hclo hgl hbl (hbind s1 _ I1) (by decide) (by simp) hkinds (fun s2 μ0 k12 I2 hz F2 => ?_) hco hgen hkf
  · have := r.depth
    show A.depth + _ < _
    have r2 := r.2.1
    have : (Code.builtin "type.__call__" ⟨.ref 145 :: vs, []⟩).weight = 1 := by rfl
    unfold recursionLimit
    omega
  have rA : Rm (n + 2) (A.under (.builtin "type.__call__" ⟨.ref 145 :: vs, []⟩)) := by
    refine r.down rfl ?_ ?_
    · show A.depth + _ ≤ _
      have : (Code.builtin "type.__call__" ⟨.ref 145 :: vs, []⟩).weight = 1 := by rfl
      omega
    · show A.units + (1 + 3 * 0) ≤ _
      omega
  have rr : Rm n ((A.under (.builtin "type.__call__" ⟨.ref 145 :: vs, []⟩)).deeper (callEnvC fd s1.heap.objs.size 86)) := by
    exact Rm.deeper (rA.le (m := n + 1) (by omega)) _
  refine wpAny_execs_cons (wpAny_mono (hst Y s1.heap.objs.size (.ref (hh.objs.size + 1)) _ rr s2 μ0 I2 F2) (fun fl s3 p => ?_) fun _ _ z => z.elim)
  obtain ⟨rfl, μ3, a3⟩ := p
  have hx3 : s3.heap.get? (hh.objs.size + 1) = some (instObj QN hh.objs.size) := a3.kp.keep _ _ (k12.keep _ _ hx1 (fun z => z) (cls_notab I1 hx1 (by simp))) (fun z => by have := hz _ z; rw [z1] at this; exact absurd this (by omega)) (cls_notab I1 hx1 (by simp))
  have hd3 : s3.heap.get? hh.objs.size = some (dictOf [] 0) := a3.kp.keep _ _ (k12.keep _ _ hdx1 (fun z => z) (cls_notab I1 hdx1 (by simp))) (fun z => by have := hz _ z; rw [z1] at this; exact absurd this (by omega)) (cls_notab I1 hdx1 (by simp))
  refine wpAny_execs_cons (plainObj_wpAny_Assign_Attribute ((Ev.name (n := n) 1 rfl rfl).use rr a3.inv a3.fm fun v s4 k4 I4 F4 i4 => (Ev.name (n := n) 0 rfl rfl).use rr I4 F4 fun vx s5 k5 I5 F5 i5 => ?_))
  obtain rfl := D.Is.val_iff.mp i5
  have k35 := k4.trans0 k5
  have hx5 := k35.keep _ _ hx3 (fun z => z) (cls_notab a3.inv hx3 (by simp))
  have hd5 := k35.keep _ _ hd3 (fun z => z) (cls_notab a3.inv hd3 (by simp))
  obtain ⟨m, hm⟩ := F5.ns
  have hLs : s1.heap.objs.size ≤ (callEnvC fd s1.heap.objs.size 86).locals := Nat.le_refl _
  refine wpAny_sz (setText I5 hm hx5 hd5 (Nat.ne_of_lt (Nat.lt_of_lt_of_le (by rw [z1]; exact Nat.lt_succ_self _) hLs)) (Nat.ne_of_lt (Nat.lt_of_lt_of_le (by rw [z1]; exact Nat.lt_succ_of_lt (Nat.lt_succ_self _)) hLs)) (Nat.ne_of_gt (Nat.lt_succ_self _)) fun h' tk hs kt hm' hd' hk sz => wpAny_execs_nil ?_)
  generalize hL : (fdOf fd 86 [S "self", S "text_or_uri", S "tag"] Y s1.heap.objs.size).env.locals = L at *
  have hL1 : s1.heap.objs.size ≤ L := by rw [← hL]; exact Nat.le_refl _
  have kq : Kq (fun b => b = L ∨ b = hh.objs.size) s5.heap h' := ⟨fun b o e n => hk b o (fun q => n (.inl q)) (fun q => n (.inr q)) e, fun b o e c => by
    by_cases h1 : b = L
    · subst h1; obtain ⟨o1, ho1, hc1⟩ := ns_noCode hm; rw [ho1] at e; cases e; exact absurd c hc1
    · by_cases h2 : b = hh.objs.size
      · subst h2; rw [hd5] at e; cases e; exact absurd c (noCode rfl)
      · exact hk b o h1 h2 e, sz⟩
  have hB : ∀ b, (b = L ∨ b = hh.objs.size) → W.B ≤ b := fun b e => by
    rcases e with e | e
    · exact e ▸ Nat.le_trans I1.size hL1
    · exact e ▸ I.size
  have k5' : Kp (fun b => b = L ∨ b = hh.objs.size) s5 { s5 with heap := h', toks := tk } := kq.kp (V.high hB)
  have kall : Kp (fun b => hh.objs.size ≤ b) ⟨hh, g, d, t, os⟩ { s5 with heap := h', toks := tk } :=
    ((((k01.weaken fun b z => z.elim : Kp (fun b => hh.objs.size ≤ b) _ s1).trans k12 fun b z => z.elim).trans a3.kp fun b z => .inl (by have := hz b z; rw [z1] at this; exact Nat.le_trans (Nat.le_add_right _ 2) this)).trans k35 fun b z => z.elim).trans k5' fun b e => .inl (by
      rcases e with e | e
      · rw [e]; rw [z1] at hL1; exact Nat.le_trans (Nat.le_add_right _ 2) hL1
      · exact Nat.le_of_eq e.symm)
  refine ⟨rfl, kall.weaken fun b z => .inr z, I5.step V kq hB, ?_⟩
  obtain ⟨tt, rfl⟩ := D.Is.str_iff.mp i4
  simp only [D.Is]
  refine ⟨hh.objs.size + 1, hh.objs.size, hs, kt, tt, 1, rfl, y.av V I (Nat.le_succ _), y.av V I (Nat.le_refl _), hk _ _ (fun q => ?_) (Nat.ne_of_gt (Nat.lt_succ_self _)) hx5, hd'⟩
  rw [z1] at hL1
  exact absurd (q ▸ hL1) (by omega)

theorem bindsAt {fd : FuncData} {vs : List Value} {binds : List (Str × Value)} (e : ∀ S', peek W.K S' (bindArgs fd ⟨vs, []⟩) = some binds) : ∀ s, Inv W s.heap → BindsTo s fd ⟨vs, []⟩ binds := fun s I => kp_binds I.K e
theorem Cl.qn1 {a : Str} (V : W.Ok) : Cl W (n + 3) (.ref 145) [.str a] (.qn a) := by
  refine qnCore (dt := D.none) (a := a) (T := a) V ⟨_, rfl, rfl⟩ (cdAt rfl rfl rfl rfl) rfl rfl rfl rfl ?_ (by decide +kernel) rfl rfl fun X L x => ?_
  · intro h Y vs il
    simp only [D.IsL] at il
    obtain ⟨v, r, rfl, i, rfl⟩ := il
    exact ⟨v, .none, i, D.Is.val, fun s x => bindsAt (fun S' => by rfl) s⟩
  · exact Ex.ife (b := false) (Ts.ev (Ev.name 2 rfl rfl) Fb.none) (fun h => by cases h) (fun _ => Exs.nil)
theorem Cl.qn2 {a b : Str} (V : W.Ok) (ha : a.length ≤ 1000) (hb : b.length ≤ 1000) (hb0 : b.length ≠ 0) : Cl W (n + 3) (.ref 145) [.str a, .str b] (.qn (qtext a b)) := by
  refine qnCore (dt := .str b) (a := a) (T := qtext a b) V ⟨_, rfl, rfl⟩ (cdAt rfl rfl rfl rfl) rfl rfl rfl rfl ?_ (by decide +kernel) rfl rfl fun X L x => ?_
  · intro h Y vs il
    simp only [D.IsL] at il
    obtain ⟨v, r, rfl, i, v2, r2, rfl, i2, rfl⟩ := il
    exact ⟨v, v2, i, i2, fun s x => bindsAt (fun S' => by rfl) s⟩
  · refine Ex.ife (b := true) (Ts.conv (Ts.ev (Ev.name 2 rfl rfl) (Fb.str hb)) (by simp; omega)) (fun _ => ?_) (fun h => by cases h)
    have e : qtext a b = [S "{", a, S "}", b].foldl (· ++ ·) Str.empty := by
      show S "{" ++ a ++ S "}" ++ b = Str.empty ++ S "{" ++ a ++ S "}" ++ b
      rw [show Str.empty ++ S "{" = S "{" from by decide]
    have l1 : (S "{").length = 1 := by decide
    have l2 : (S "}").length = 1 := by decide
    refine Exs.cons (Ex.assign 1 V (d := .str (qtext a b)) ?_ rfl (.inl rfl)) Exs.nil
    rw [e]
    refine Ev.joined (.cons Ev.str (.cons (Ev.fmtS (Ev.name 1 rfl rfl) ha) (.cons Ev.str (.cons (Ev.fmtS (Ev.name 2 rfl rfl) hb) .nil)))) ?_ ?_
    · simp only [List.map_cons, List.map_nil, List.sum_cons, List.sum_nil, l1, l2]; omega
    · rw [← e]; unfold qtext; simp only [strLen_append, l1, l2]; unfold sizeLine; omega
end
end Mine
end
section -- S25
open PySem PySem.W PyProof.Rows PySem.Calls PySem.Spec
set_option Elab.async false
set_option maxRecDepth 100000
set_option linter.unusedVariables false
set_option autoImplicit false
set_option pp.maxSteps 900
namespace Mine
section
variable {W : Wd} {f : Fd} {ρ ρ' : List Vr} {μ : Mu} {n : Nat}
noncomputable abbrev vQN : D := .val (.ref 145)
theorem inst_of {Y : Addr → Prop} {h : Heap} {x : Str} {v : Value} (i : D.Is Y h (.qn x) v) : ∃ a dx hs kt t k, v = .ref a ∧ InstAt h a (instObj QN dx) QN (some (dictOf [⟨hs, .str "text" kt, .str x t⟩] k)) := by
  simp only [D.Is] at i
  obtain ⟨a, dx, hs, kt, t, k, rfl, av, av2, ho, hdx⟩ := i
  exact ⟨a, dx, hs, kt, t, k, rfl, ho, rfl, rfl, hdx⟩
theorem Cl.isQn {x : Str} : Cl W n (.builtin "isinstance") [.qn x, vQN] (D.bool true) := by
  intro A r s Y vs I y il
  simp only [D.IsL] at il
  obtain ⟨v, r', rfl, i, v2, r2, rfl, i2, rfl⟩ := il
  obtain rfl := D.Is.val_iff.mp i2
  obtain ⟨a, dx, hs, kt, t, k, rfl, In⟩ := inst_of i
  exact isi_call (K := W.K) I.K (fun M => In.type) (by kernel_rfl) (by intro q; cases q) (Pv.here I D.Is.val)
theorem Cl.isQnS {x : Str} : Cl W n (.builtin "isinstance") [.str x, vQN] (D.bool false) := by
  intro A r s Y vs I y il
  simp only [D.IsL] at il
  obtain ⟨v, r', rfl, i, v2, r2, rfl, i2, rfl⟩ := il
  obtain rfl := D.Is.val_iff.mp i2
  obtain ⟨t, rfl⟩ := D.Is.str_iff.mp i
  exact isn_call (K := W.K) (P := fun _ => True) I.K (fun M => Looks.of_pure rfl) (by kernel_rfl) (by intro q; cases q) trivial str_cls (Pv.tk _ I D.Is.val)
theorem Cl.isQnN : Cl W n (.builtin "isinstance") [D.none, vQN] (D.bool false) := by
  intro A r s Y vs I y il
  simp only [D.IsL] at il
  obtain ⟨v, r', rfl, i, v2, r2, rfl, i2, rfl⟩ := il
  obtain rfl := D.Is.val_iff.mp i2
  obtain rfl := D.Is.val_iff.mp i
  exact isn_call (K := W.K) (P := fun _ => True) I.K (fun M => Looks.of_pure rfl) (by kernel_rfl) (by intro q; cases q) trivial none_cls (Pv.tk _ I D.Is.val)
theorem Cl.isStrQ {x : Str} : Cl W n (.builtin "isinstance") [.qn x, .val (.type "str")] (D.bool false) := by
  intro A r s Y vs I y il
  simp only [D.IsL] at il
  obtain ⟨v, r', rfl, i, v2, r2, rfl, i2, rfl⟩ := il
  obtain rfl := D.Is.val_iff.mp i2
  obtain ⟨a, dx, hs, kt, t, k, rfl, In⟩ := inst_of i
  exact kin_callT (K := W.K) I.K In (by kernel_rfl) (by kernel_rfl) (by kernel_rfl) (by kernel_rfl) (by kernel_rfl) (by kernel_rfl) (by kernel_rfl) (by kernel_rfl) (Pv.tk _ I D.Is.val)
theorem Cl.isStrN : Cl W n (.builtin "isinstance") [D.none, .val (.type "str")] (D.bool false) := by
  intro A r s Y vs I y il
  simp only [D.IsL] at il
  obtain ⟨v, r', rfl, i, v2, r2, rfl, i2, rfl⟩ := il
  obtain rfl := D.Is.val_iff.mp i2
  obtain rfl := D.Is.val_iff.mp i
  exact IsiPair.NoneType_str (Pv.tk _ I D.Is.val)
-- == of QNames
theorem c_eq {x y : Str} {d : D} (hd : d = .qn y ∨ d = .str y) (V : W.Ok) : Cl W (n + 2) (.ref 142) [.qn x, d] (D.bool (x == y)) := by
  refine Cl.fn (nm := [S "self", S "other"]) (k := 0) V (fnAt rfl rfl) (cdAt rfl rfl rfl rfl) rfl rfl rfl rfl ?_ (by decide) (by simp) (by decide +kernel) fun X L => ?_
  · intro vs h
    rcases vs with _ | ⟨v1, _ | ⟨v2, _ | _⟩⟩ <;> simp at h
    rfl
  rcases hd with rfl | rfl
  · refine Rt.ife (b := true) (Ts.ev (d := D.bool true) ?_ Fb.bool) (fun _ => Rt.ret (Ev.cmp (Ev.text (Ev.name 0 rfl rfl)) (Ev.text (Ev.name 1 rfl rfl)) F2.eqS)) (fun h => by cases h)
    · apply Ev.call
      case hf => exact Ev.bname (v := .builtin "isinstance") V rfl (by kernel_rfl) (by decide +kernel)
      case ha => exact EvL.cons (Ev.name 1 rfl rfl) (EvL.cons (Ev.gname (v := .ref 145) V rfl (by kernel_rfl)) EvL.nil)
      case hk => exact Kept.builtin
      case hc => exact Cl.isQn
      all_goals rfl
  · refine Rt.ife (b := false) (Ts.ev (d := D.bool false) ?_ Fb.bool) (fun h => by cases h) (fun _ => ⟨_, Exs.nil, Rt.ret (Ev.cmp (Ev.text (Ev.name 0 rfl rfl)) (Ev.name 1 rfl rfl) F2.eqS)⟩)
    · apply Ev.call
      case hf => exact Ev.bname (v := .builtin "isinstance") V rfl (by kernel_rfl) (by decide +kernel)
      case ha => exact EvL.cons (Ev.name 1 rfl rfl) (EvL.cons (Ev.gname (v := .ref 145) V rfl (by kernel_rfl)) EvL.nil)
      case hk => exact Kept.builtin
      case hc => exact Cl.isQnS
      all_goals rfl
theorem F2.eqQ {x y : Str} {d : D} (hd : d = .qn y ∨ d = .str y) (V : W.Ok) : F2 W (n + 2) (compareOp .Eq) (.qn x) d (D.bool (x == y)) := by
  intro A r s Y v1 v2 I yk i1 i2
  obtain ⟨a, dx, hs, kt, t, k, rfl, In⟩ := inst_of i1
  have hb : ∃ tb, Looks W.M s.heap (typeOf v2) tb ∧ notFirst W.K QN tb = true := by
    rcases hd with rfl | rfl
    · obtain ⟨a2, dx2, hs2, kt2, t2, k2, rfl, In2⟩ := inst_of i2
      exact ⟨.ref QN, In2.type, by kernel_rfl⟩
    · obtain ⟨u, rfl⟩ := D.Is.str_iff.mp i2
      exact ⟨.type "str", Looks.of_pure rfl, by kernel_rfl⟩
  obtain ⟨tb, hb, hn⟩ := hb
  let h0 : Heap := { s.heap with objs := #[] }
  show wpAny _ _ (richCompare .Eq (.ref a) v2) _ _ _
  have X := I.K
  have one : wpAny W.M A (tryCompare (.ref a) (cmpInfo .Eq).2.1 v2) (fun r s' => ∃ v, r = some v ∧ Pv W Y s (D.bool (x == y)) v s') Fz s := by
    unfold tryCompare
    refine wpAny_bind (ifBound_K (K := W.K) (f := 142) X In (by kernel_rfl) (by kernel_rfl) (wpAny_mono (c_eq hd V A r s Y [.ref a, v2] I yk (.cons i1 (.cons i2 .nil))) (fun v s' hv => ?_) fun _ _ e => e))
    have := D.Is.val_iff.mp hv.2.2
    subst this
    exact wpAny_pure ⟨_, rfl, hv⟩
  unfold richCompare
  simp only [oneThing_ref]
  refine wpAny_holding (wpAny_bind (wpAny_cRoomFor r.units ?_))
  refine wpAny_bind (In.type.here (wpAny_bind (hb.here ?_)))
  split
  · rename_i q
    have e : subIn W.K tb (.ref QN) = some false := by
      rcases Bool.or_eq_true_iff.mp hn with e | e
      · rw [beq_iff_eq.mp e] at q; simp at q
      · exact beq_iff_eq.mp e
    refine wpAny_bind ((looks_subIn X e).here ?_)
    simp only [Bool.false_eq_true, if_false]
    refine wpAny_bind (wpAny_mono one (fun r s' z => ?_) fun _ _ e => e)
    obtain ⟨v, rfl, hq⟩ := z
    exact wpAny_pure hq
  · refine wpAny_bind (wpAny_pure ?_)
    simp only [Bool.false_eq_true, if_false]
    refine wpAny_bind (wpAny_mono one (fun r s' z => ?_) fun _ _ e => e)
    obtain ⟨v, rfl, hq⟩ := z
    exact wpAny_pure hq
end
end Mine
end
section -- S26
open PySem PySem.W PyProof.Rows PySem.Calls PySem.Spec
set_option Elab.async false
set_option maxRecDepth 100000
set_option linter.unusedVariables false
set_option autoImplicit false
set_option pp.maxSteps 900
namespace Mine
theorem tab_uni : ∀ q ∈ tabsL, ∀ q' ∈ tabsL, q.2.1 = q'.2.1 → q.2.2 = q'.2.2 := by decide +kernel

/-- a table grows by one code -/
theorem Inv.grow {W : Wd} {h h' : Heap} {P c' : Addr} {c : Addr} {q : Str} {ps : Array Value} {pos : Pos} (V : W.Ok) (I : Inv W h) (hm : (c, P, q) ∈ tabsL) (hP : h.get? P = some (tabObj ps)) (htr : TriplesOk ps.toList)
    (hold : ∀ pos c, codeAmong pos ps.toList = some c → CodeIs h c q) (hnf : codeAmong pos ps.toList = none) (hx : Heap.ExtBut P h h') (hsz : h.objs.size ≤ h'.objs.size) (hc' : CodeIs h' (.ref c') q)
    (hP' : h'.get? P = some (tabObj (ps ++ #[rawInt pos.line, rawInt pos.col, .ref c']))) : Inv W h' := by
  have hT : isTab P := ⟨_, hm, rfl⟩
  have low : ∀ b, ¬ isTab b → b ≠ P := fun b hb e => hb (e ▸ hT)
  have ns : ∀ a m, ¬ isTab a → h.Ns a m → h'.Ns a m := fun a m ha x => let ⟨o, es, ep, e, r⟩ := x; ⟨o, es, ep, hx _ _ (low a ha) e, r⟩
  have kc : ∀ b o, h.get? b = some o → isCode o → h'.get? b = some o := fun b o e ic => hx b o (fun q => by rw [q, hP] at e; cases e; exact absurd ic.1 (by simp)) e
  have hcs : ¬ isTab cStatics := V.offM.2.2
  refine ⟨fun a o e => hx a o (low a (V.offT a o e)) (I.K a o e), ns _ _ V.offM.1 I.g, ns _ _ V.offM.2.1 I.b, ?_, ?_, ?_, fun r hr => ?_, Nat.le_trans I.size hsz⟩
  · obtain ⟨mc, a, r⟩ := I.lim; exact ⟨mc, ns _ _ hcs a, r⟩
  · obtain ⟨mc, a, r⟩ := I.dig; exact ⟨mc, ns _ _ hcs a, r⟩
  · obtain ⟨bm, ob, h1, h2, r⟩ := I.bm
    obtain ⟨bm', h1', _, _, ht⟩ := V.bm
    rw [h1] at h1'; cases h1'
    exact ⟨bm, ob, h1, hx _ _ (low _ ht) h2, r⟩
  · by_cases e : r.2.1 = P
    · have e2 : r.2.2 = q := tab_uni r hr _ hm e
      rw [e, e2]
      refine ⟨_, hP', ?_, fun pos' c e => ?_⟩
      · rw [Array.toList_append]; exact TriplesOk_snoc _ _ _ _ htr
      · rw [Array.toList_append] at e
        have h3 : c = .ref c' ∨ codeAmong pos' ps.toList = some c := by
          revert e
          generalize ps.toList = l at htr
          intro e
          fun_induction TriplesOk l with
          | case1 =>
            simp only [List.nil_append, codeAmong, rawInt] at e
            split at e
            · cases e; exact .inl rfl
            · cases e
          | case2 a t b u x rest ih =>
            simp only [List.cons_append, codeAmong] at e ⊢
            split at e
            · rename_i hh
              rw [if_pos hh]; exact .inr e
            · rename_i hh
              rw [if_neg hh]; exact ih htr e
          | case3 l h1 h2 => exact htr.elim
        rcases h3 with rfl | h3
        · exact hc'
        · exact (hold pos' c h3).step kc
    · obtain ⟨ps', a, b, c⟩ := I.tab r hr
      exact ⟨ps', hx _ _ e a, b, fun pos v e => (c pos v e).step kc⟩

noncomputable abbrev fdN (name qual : Str) (params : Arguments) (body : List Stmt) (scope : Scope) (clos : List (Str × Addr)) (doc pm code ctv : Value) : FuncData := fnX name qual params body scope clos .none .none doc pm none code ctv

/-- what stands after a def in a body -/
noncomputable def FnNew (W : Wd) (name qual : Str) (params : Arguments) (body : List Stmt) (scope : Scope) (clos : List (Str × Addr)) (s : Shared) (v : Value) (s' : Shared) : Prop :=
  ∃ fa doc pm code ctv, v = .ref fa ∧ s.heap.objs.size ≤ fa ∧ fa < s'.heap.objs.size ∧ s'.heap.get? fa = some { cls := .type "function", data := .func (fdN name qual params body scope clos doc pm code ctv) } ∧ CodeIs s'.heap code qual ∧ Kp No s s' ∧ Inv W s'.heap

theorem Kp.grow {s : Shared} {h' : Heap} {tk : Nat} {P : Addr} {ps more : Array Value} (hT : isTab P) (hP : s.heap.get? P = some (tabObj ps)) (hx : Heap.ExtBut P s.heap h') (hsz : s.heap.objs.size ≤ h'.objs.size) (hP' : h'.get? P = some (tabObj (ps ++ more))) :
    Kp No s { s with heap := h', toks := tk } :=
  ⟨fun b o e _ t => hx b o (fun q => t (q ▸ hT)) e, fun b o e ic => hx b o (fun q => by rw [q, hP] at e; cases e; exact absurd ic.1 (by simp)) e,
   fun P' _ ps' e => by
    by_cases q : P' = P
    · subst q; rw [hP] at e; cases e; exact ⟨more, hP'⟩
    · exact ⟨#[], by simpa using hx P' _ q e⟩,
   hsz, fun _ _ e => e, fun i x e hi => (by rw [Array.getElem?_eq_none hi] at e; cases e), rfl⟩

theorem mkFn {W : Wd} {A : Around} {s : Shared} {name qual : Str} {params : Arguments} {body : List Stmt} {scope : Scope} {env : Env} {c P : Addr} {pos : Pos} {firstLine : Nat} {clos : List (Str × Addr)} (V : W.Ok) (I : Inv W s.heap)
    (hm : (c, P, qual) ∈ tabsL) (hC : codeHdIn W.K c P = true) (hcl : closureFor scope env = pure clos) (hge0 : env.globals = mainGlobals) (hcode : env.code = .ref c) :
    wpAny W.M A (makeFunction name qual params (.stmts body) scope env [] [] [] pos firstLine) (FnNew W name qual params body scope clos s) Fz s := by
  have C : CodeHd s.heap c P := codeHd_of_K I.K hC
  have hT : isTab P := ⟨_, hm, rfl⟩
  obtain ⟨ps, hP, ht, hold⟩ := I.tab _ hm
  have hb : s.heap.BuiltinsAt W.mg P := by
    obtain ⟨bm, ob, h1, h2, h3, h4, h5⟩ := I.bm
    obtain ⟨bm', h1', hne, _, hnt⟩ := V.bm
    rw [h1] at h1'; cases h1'
    refine ⟨bm, ob, h1, hne, fun q => ?_, fun q => hnt (by rw [q]; exact hT), h2, h3, h4, h5⟩
    obtain ⟨o, es, ep, e, hd, _⟩ := I.g
    rw [q, e] at h2; cases h2; rw [hd] at h5; cases h5
  have hgP : mainGlobals ≠ P := fun q => V.offM.1 (by rw [q]; exact hT)
  cases hf : codeAmong pos ps.toList with
  | some cv =>
    refine makeFunction_hit hcl hge0 I.g hcode C hP ht hf hb fun ctv doc h' tk hk hsz => ?_
    have kq : Kq No s.heap (h'.push { cls := .type "function", data := .func (fnX name qual params body scope clos .none .none doc ((W.mg "__name__").getD .none) none cv ctv) }) :=
      (Kq.all hk hsz).trans (.push _ _) fun _ z => .inl z
    refine ⟨h'.objs.size, doc, _, cv, ctv, rfl, hsz, by show _ < (h'.push _).objs.size; rw [Heap.size_push]; exact Nat.lt_succ_self _, Heap.get?_push_size _ rfl, ((hold pos cv hf).step kq.code), kq.kp (fun _ _ z => z), I.step V kq fun _ z => z.elim⟩
  | none =>
    rw [makeFunction_eq]
    simp only [List.zip_nil_right, List.filterMap_nil, List.isEmpty_nil, if_true, pure_bind]
    obtain ⟨bm, ob, hbm, hne0, _, hneP, hbo, hcls, hdict, hdata⟩ := hb
    -- what the rest of the making does, once the code stands
    have fin : ∀ (h0 : Heap) (c' : Addr) (ctv doc : Value) (h' : Heap) (tk : Tok), Kq No s.heap h0 → h0.get? P = some (tabObj ps) → Heap.ExtBut P h0 h' → h0.objs.size ≤ c' → c' < h'.objs.size → h'.CodeRec (.ref c') qual → (∃ P', h'.TableAt c' P' #[]) → h'.get? P = some (tabObj (ps ++ #[rawInt pos.line, rawInt pos.col, .ref c'])) →
        FnNew W name qual params body scope clos s (.ref h'.objs.size) { s with heap := h'.push (fnMade name qual params body scope clos doc ((W.mg "__name__").getD .none) c' ctv), toks := tk } := fun h0 c' ctv doc h' tk k0 hP0 hx hge hlt hrec htab htb => by
      have hc' : CodeIs h' (.ref c') qual := by
        obtain ⟨c2, o, vs, t, e, g, hd, hv⟩ := hrec
        cases e
        obtain ⟨P', ⟨o', vs', g', hcl', _, _⟩, _⟩ := htab
        rw [g] at g'; cases g'
        exact ⟨c', o, vs, t, rfl, g, hcl', hd, hv⟩
      have hx0 : Heap.ExtBut P s.heap h' := fun b o hb e => hx b o hb (k0.keep b o e fun z => z)
      have hsz : s.heap.objs.size ≤ h'.objs.size := Nat.le_trans (Nat.le_trans k0.size hge) (Nat.le_of_lt hlt)
      have I1 : Inv W h' := I.grow V hm hP ht hold hf hx0 hsz hc' htb
      have kq : Kq No h' (h'.push (fnMade name qual params body scope clos doc ((W.mg "__name__").getD .none) c' ctv)) := .push _ _
      have kp : Kp No s { s with heap := h', toks := tk } := .grow hT hP hx0 hsz htb
      refine ⟨h'.objs.size, doc, _, .ref c', ctv, rfl, hsz, by show _ < (h'.push _).objs.size; rw [Heap.size_push]; exact Nat.lt_succ_self _, Heap.get?_push_size _ rfl, hc'.step kq.code, ?_, I1.step V kq fun _ z => z.elim⟩
      exact kp.trans0 (Kq.kp (s := { s with heap := h', toks := tk }) kq (fun _ _ z => z))
    unfold makeTail
    rw [hcl, hge0]
    refine wpAny_bind (wpAny_pure ?_)
    cases clos with
    | nil =>
      simp only [List.isEmpty_nil, if_true]
      refine wpAny_bind (wpAny_pure ?_)
      refine wpAny_bind (wpAny_functionCodeX hcode (C.code hP ht) (C.tab hP) hf fun c' h' tk hx hge hlt _ hrec htb hP' => ?_)
      have hg' := I.g.extBut hx hgP
      refine wpAny_bind (wpAny_builtinsFor hg' hbm hne0 (hx _ _ hneP hbo) hcls hdict hdata ?_)
      refine wpAny_bind (wpAny_nsGet hg' ?_)
      have hP2 : ∃ P', h'.TableAt c' P' #[] := let ⟨P', _, _, x⟩ := hP'; ⟨P', x⟩
      cases hdoc : docOf body with
      | none => exact wpAny_bind (wpAny_pure (wpAny_newObj_type (fin s.heap c' .none .none h' tk (.refl _) hP hx hge hlt hrec hP2 htb.2) (by size_fits)))
      | some t => exact wpAny_bind (wpAny_mkText (wpAny_newObj_type (fin s.heap c' .none _ h' _ (.refl _) hP hx hge hlt hrec hP2 htb.2) (by size_fits)))
    | cons q r =>
      simp only [List.isEmpty_cons, Bool.false_eq_true, if_false]
      refine wpAny_bind (wpAny_newTextTuple ?_)
      refine wpAny_bind (wpAny_functionCodeX hcode ((C.keeps fun b o e => Heap.get?_push_of_some _ e).code (Heap.get?_push_of_some _ hP) ht) ((C.keeps fun b o e => Heap.get?_push_of_some _ e).tab (Heap.get?_push_of_some _ hP)) hf fun c' h' tk hx hge hlt _ hrec htb hP' => ?_)
      have hg' := (I.g.push _).extBut hx hgP
      refine wpAny_bind (wpAny_builtinsFor hg' hbm hne0 (hx _ _ hneP (Heap.get?_push_of_some _ hbo)) hcls hdict hdata ?_)
      refine wpAny_bind (wpAny_nsGet hg' ?_)
      have hP2 : ∃ P', h'.TableAt c' P' #[] := let ⟨P', _, _, x⟩ := hP'; ⟨P', x⟩
      cases hdoc : docOf body with
      | none => exact wpAny_bind (wpAny_pure (wpAny_newObj_type (fin _ c' _ .none h' tk (.push _ _) (Heap.get?_push_of_some _ hP) hx hge hlt hrec hP2 htb.2) (by size_fits)))
      | some t => exact wpAny_bind (wpAny_mkText (wpAny_newObj_type (fin _ c' _ _ h' _ (.push _ _) (Heap.get?_push_of_some _ hP) hx hge hlt hrec hP2 htb.2) (by size_fits)))
end Mine
end
section -- S27
open PySem PySem.W PyProof.Rows PySem.Calls PySem.Spec
set_option Elab.async false
set_option maxRecDepth 100000
set_option linter.unusedVariables false
set_option autoImplicit false
set_option pp.maxSteps 900
namespace Mine
section
variable {W : Wd} {f : Fd} {ρ : List Vr} {μ : Mu} {n : Nat}
/-- a def in a body, its name stored -/
theorem defGo {A : Around} {s : Shared} {name qual : Str} {params : Arguments} {body : List Stmt} {scope : Scope} {c P : Addr} {pos : Pos} {clos : List (Str × Addr)} {i : Nat} {Q : Flow → Shared → Prop} (V : W.Ok) (I : Inv W s.heap) (F : Fm W f ρ μ s.heap)
    (hm : (c, P, qual) ∈ tabsL) (hC : codeHdIn W.K c P = true) (hcl : closureFor scope f.env = pure clos) (hcode : f.env.code = .ref c) (hq : qualnameIn f.env name name = qual)
    (hx : f.nm[i]? = some name) (hk : f.env.kindOf name = some .local ∨ f.env.kindOf name = some .cell ∧ f.st = true)
    (hd0 : params.defaults = []) (hk0 : params.kw_defaults = []) (ha : annTrees params none f.env = [])
    (h : ∀ fa doc pm code ctv s', s.heap.objs.size ≤ fa → fa < s'.heap.objs.size → s'.heap.get? fa = some { cls := .type "function", data := .func (fdN name qual params body scope clos doc pm code ctv) } → CodeIs s'.heap code qual →
      Kp μ.Z s s' → Inv W s'.heap → Fm W f (ρ.set i (.val (.val (.ref fa)))) μ s'.heap → Q .next s') :
    wpAny W.M A (exec (.FunctionDef name params body [] none [] scope none name pos) f.env) Q Fz s := by
  refine nestDef_K hd0 hk0 ha ?_
  rw [hq]
  refine wpAny_mono (mkFn V I hm hC hcl F.glob hcode) (fun v s1 p => ?_) fun _ _ z => z
  obtain ⟨fa, doc, pm, code, ctv, rfl, h1, h2, h3, h4, k1, I1⟩ := p
  have F1 := F.step I k1
  refine sto V I1 F1 hx hk (d := .val (.ref fa)) (D.Is.val) fun s2 k2 I2 F2 => ?_
  have hz : ¬ μ.Z fa := fun z => absurd (F.lt fa (.inr z)).1 (Nat.not_lt.mpr h1)
  exact h fa doc pm code ctv s2 h1 (Nat.lt_of_lt_of_le h2 k2.size) (k2.keep _ _ h3 hz (cls_notab I1 h3 (by simp))) (h4.step k2.code) (k1.up.trans k2 fun _ z => .inl z) I2 F2

/-- the value behind a name is kept in mind -/
theorem Fm.exact {h : Heap} {i : Nat} {x : Str} {d : D} (F : Fm W f ρ μ h) (hi : f.nm[i]? = some x) (hd : ρ[i]? = some (Vr.val d)) : ∃ v, Has f.env h x v ∧ d.Is (Yo f μ) h v ∧ Fm W f (ρ.set i (.val (.ex v d))) μ h := by
  obtain ⟨v, H, id⟩ := F.val i x d hi hd
  have nb : ∀ j l, (ρ.set i (.val (.ex v d)))[j]? = some (Vr.box l) → ρ[j]? = some (Vr.box l) := fun j l e => by
    rw [List.getElem?_set] at e
    split at e
    · split at e <;> cases e
    · exact e
  refine ⟨v, H, id, F.kind, F.glob, F.blt, F.nod, F.ns, F.nsZ, F.cel, F.ap, fun j y d' hj hd' => ?_, fun j y l hj e => F.box j y l hj (nb j l e), F.lt, F.low, F.base⟩
  rw [List.getElem?_set] at hd'
  split at hd'
  · rename_i e; subst e
    rw [hi] at hj; cases hj
    split at hd'
    · cases hd'; exact ⟨v, H, by simp only [D.Is]; exact ⟨trivial, id⟩⟩
    · cases hd'
  · exact F.val j y d' hj hd'

theorem Cl.thing {d : D} (V : W.Ok) : Cl W 3 (.ref 180) [d] (.thing d) := by
  refine Cl.fn (nm := [S "tag", S "thing"]) (k := 1) V (fnAt rfl rfl) (cdAt rfl rfl rfl rfl) rfl rfl rfl rfl ?_ (by decide) (by simp) (by decide +kernel) fun X L => ?_
  · intro vs h
    rcases vs with _ | ⟨v1, _ | _⟩ <;> simp at h
    rfl
  intro A r s μ I F0
  obtain ⟨v0, _, iv0, F⟩ := F0.exact (i := 0) rfl rfl
  refine wpAny_execs_cons (defGo (c := 179) (P := 175) (qual := Str.ofString "_law_thing.<locals>.thing") (i := 1) V I F (by simp [tabsL]) (by kernel_rfl) rfl rfl (by with_unfolding_all rfl) rfl (.inl rfl) rfl rfl rfl fun fa doc pm code ctv s1 h1 h2 h3 h4 k1 I1 F1 => ?_)
  refine wpAny_execs_cons (plainObj_wpAny_Assign_Attribute ((Ev.name (n := 2) 0 rfl rfl).use r I1 F1 fun v s4 k4 I4 F4 i4 => (Ev.name (n := 2) 1 rfl rfl).use r I4 F4 fun vx s5 k5 I5 F5 i5 => ?_))
  simp only [D.Is] at i4 i5
  obtain ⟨rfl, i4⟩ := i4
  subst i5
  have k45 := k4.trans0 k5
  have ho := k45.keep _ _ h3 (fun z => z) (cls_notab I1 h3 (by simp))
  have nlt : ∀ a, Yo (fdOf _ 180 [S "tag", S "thing"] X L) μ a → a ≠ fa := fun a y q => absurd (F0.lt a y).1 (Nat.not_lt.mpr (q ▸ h1))
  refine setTag ho fun h' tk hs kt k ha hd hk hsz => ?_
  obtain ⟨m, hm⟩ := F5.ns
  have hm' := hm.at' fun o e => hk _ o (nlt _ (.inr F5.nsZ)) e
  obtain ⟨vt, Ht, it⟩ := F5.val 1 (S "thing") _ rfl rfl
  have hmt : m (S "thing") = some (.ref fa) := by
    simp only [D.Is] at it
    subst it
    rcases Ht with ⟨_, m', n', e⟩ | ⟨q | q, _⟩
    · rw [ns_unique hm n']; exact e
    · cases q
    · cases q
  have kq : Kq (fun b => b = fa) s5.heap h' := ⟨fun b o e n => hk b o n e, fun b o e c => hk b o (fun q => by rw [q, ho] at e; cases e; exact absurd c (noCode rfl)) e, hsz⟩
  have hB : ∀ b, b = fa → W.B ≤ b := fun b e => e ▸ Nat.le_trans I.size h1
  have k6 : Kp (fun b => b = fa) s5 { s5 with heap := h', toks := tk } := kq.kp (V.high hB)
  have I6 : Inv W h' := I5.step V kq hB
  refine wpAny_execs_cons (wpAny_Return_some (wpAny_Name (wpAny_loadName_local F5.kind rfl hm' hmt ?_) (by decide)))
  have ks : Kp μ.Z s s5 := k1.trans k45 fun _ z => z.elim
  have kall : Kp μ.Z s { s5 with heap := h', toks := tk } := ks.trans k6 fun b e => .inr (e ▸ h1)
  refine ⟨_, rfl, kall, I6, ?_⟩
  simp only [D.Is]
  have old : ∀ b, s.heap.objs.size ≤ b → Av X b := fun b hb => ⟨fun y => absurd (F0.lt b (.inl y)).1 (Nat.not_lt.mpr hb), fun t => absurd (V.lowT b t) (Nat.not_lt.mpr (Nat.le_trans I.size hb))⟩
  refine ⟨fa, s5.heap.objs.size, _, hs, kt, v, k, rfl, old _ h1, old _ ks.size, ha, hd, iv0.move ⟨fun b z => .inl (.inl z), fun b o e y t => kall.keep b o e (fun z => y (.inr z)) t⟩⟩
end
end Mine
end
section -- S28
open PySem PySem.W PyProof.Rows PySem.Calls PySem.Spec
set_option Elab.async false
set_option maxRecDepth 100000
set_option linter.unusedVariables false
set_option autoImplicit false
set_option pp.maxSteps 900
namespace Mine
section
variable {W : Wd} {f : Fd} {ρ : List Vr} {μ : Mu} {n : Nat}
theorem wpAny_choose1 {M : Model} {A : Around} {E : Value → Shared → Prop} {s : Shared} {src : Source} {Q : Nat → Shared → Prop} (h : Q 0 { s with drawn := s.drawn.bump src }) : wpAny M A (choose src 1) Q E s := by
  intro Γ p hΓ
  unfold choose
  rw [Sem.wp_choose]
  exact ⟨by decide, by rw [Nat.mod_one]; exact h⟩

/-- {x}: a display of one int -/
theorem Set1_display {prog : Program} {w : World} {A : Around} {E : Value → Shared → Prop} {s : Shared} {i : Int} {x : Sem Value} {Q : Value → Shared → Prop} {b : Bool}
    (hx : ∀ h', (∀ b o, s.heap.get? b = some o → h'.get? b = some o) → wpAny (model prog w) A x (fun v s' => ∃ t, v = .int i t ∧ s' = { s with heap := h' }) E { s with heap := h' })
    (h : ∀ h' tk, (∀ b o, s.heap.get? b = some o → h'.get? b = some o) → s.heap.objs.size < h'.objs.size → h'.SetOf (intKind prog w) s.heap.objs.size (fun k => decide (k = i)) 1 → Q (.ref s.heap.objs.size) { s with heap := h', toks := tk }) :
    wpAny (model prog w) A (setDisplay .oneByOne b [(false, x)]) Q E s := by
  unfold setDisplay
  rw [if_neg (by decide)]
  refine wpAny_bind (wpAny_newSet_of (knd := intKind prog w) fun led hS => ?_)
  dsimp only
  refine wpAny_bind (wpAny_holding ?_)
  show wpAny _ _ (evalAll [x] >>= _) _ _ _
  refine wpAny_bind (wpAny_evalAll_cons (wpAny_mono (hx _ fun b o e => Heap.get?_push_of_some _ e) (fun v s' p => ?_) fun _ _ z => z))
  obtain ⟨t, rfl, rfl⟩ := p
  refine wpAny_evalAll_nil ?_
  refine wpAny_bind (wpAny_holding ?_)
  rw [List.forIn_cons]
  refine wpAny_bind (wpAny_bind ?_)
  unfold setAdd
  refine wpAny_bind (wpAny_holding ?_)
  refine wpAny_bind ((intKind prog w).pyHash (intKind_is prog w i t) ?_)
  refine wpAny_setAddHashed_of (intKind_is prog w i t) rfl hS (by decide) fun h' hsb hS' => ?_
  refine wpAny_pure ?_
  dsimp only
  rw [List.forIn_nil]
  refine wpAny_pure ?_
  rw [if_neg (by decide)]
  refine wpAny_pure ?_
  show wpAny _ _ (forIn (List.drop 1 [(false, x)]) _ _ >>= _) _ _ _
  rw [List.drop_succ_cons, List.drop_zero, List.forIn_nil]
  refine wpAny_bind (wpAny_pure (wpAny_pure (wpAny_pure (h h' _ (fun b o e => ?_) ?_ ?_))))
  · exact (hsb.2 b (Nat.ne_of_lt (Heap.lt_size e))).trans (Heap.get?_push_of_some _ e)
  · rw [hsb.1]; show _ < (s.heap.push _).objs.size; rw [Heap.size_push]; exact Nat.lt_succ_self _
  · simpa using hS'

theorem setPop1 {prog : Program} {w : World} {A : Around} {E : Value → Shared → Prop} {s : Shared} {a : Addr} {i : Int} {Q : Option Value → Shared → Prop} (hS : s.heap.SetOf (intKind prog w) a (fun k => decide (k = i)) 1)
    (h : ∀ h' t dr, Heap.SameBut a s.heap h' → h'.SetOf (intKind prog w) a (fun _ => false) 0 → Q (some (.int i t)) { s with heap := h', drawn := dr }) : wpAny (model prog w) A (setPop a) Q E s := by
  obtain ⟨o, es, ep, t, ho, hex, hd, hel, hmem, hb, hf, hsz⟩ := hS
  obtain ⟨l⟩ := es
  match l, hsz with
  | [(hh, x)], _ =>
    obtain ⟨e, he, hk⟩ := (hmem i).mp (by simp)
    obtain rfl : e = (hh, x) := by simpa using he
    have hx : ∃ t, x = .int i t := by
      cases x <;> simp [intKind, Value.isInt] at hk
      exact ⟨_, by rw [hk]⟩
    obtain ⟨tk, rfl⟩ := hx
    obtain ⟨mask, place, dum, fin, led, mov, plain⟩ := t
    simp only [SetTable.fits, Bool.and_eq_true, beq_iff_eq] at hf
    obtain ⟨pl⟩ := place
    obtain ⟨j, rfl⟩ : ∃ j, pl = [j] := by
      match pl, hf.1 with
      | [j], _ => exact ⟨j, rfl⟩
    unfold setPop
    refine wpAny_bind (wpAny_setState_of ho hd (by simp [SetTable.fits, hf]) ?_)
    have hpp : (SetTable.popPlace ⟨mask, ⟨[j]⟩, dum, fin, led, mov, plain⟩) = some 0 := by
      unfold SetTable.popPlace
      simp
    dsimp only
    rw [hpp]
    dsimp only
    have fin2 : ∀ dr, wpAny (model prog w) A (storeSet a (SetTable.eraseAt (⟨[(hh, Value.int i tk)]⟩ : Array (Int × Value)) 0) (SetTable.popped ⟨mask, ⟨[j]⟩, dum, fin, led, mov, plain⟩ 0)) (fun _ s' => Q (some (.int i tk)) s') E { s with drawn := dr } := fun dr => by
      have hex2 : (SetTable.eraseAt (⟨[(hh, Value.int i tk)]⟩ : Array (Int × Value)) 0) = #[] := by rfl
      rw [hex2]
      refine wpAny_storeSet_of ho hd ?_
      have hfit : (SetTable.popped ⟨mask, ⟨[j]⟩, dum, fin, led, mov, plain⟩ 0).fits (#[] : Array (Int × Value)).size = true := by
        have h2 := hf.2
        simp only [decide_eq_true_eq, SetTable.fill] at h2
        have hp : (SetTable.popped ⟨mask, ⟨[j]⟩, dum, fin, led, mov, plain⟩ 0) = ⟨mask, #[], SetTable.insertAt dum (SetTable.below dum j) j, j + 1, led, mov, plain⟩ := by rfl
        rw [hp]
        simp only [SetTable.fits, SetTable.fill, SetTable.insertAt, Bool.and_eq_true, beq_iff_eq, decide_eq_true_eq]
        refine ⟨rfl, ?_⟩
        simp at h2 ⊢
        omega
      have st := SetOf_store (knd := intKind prog w) (es' := #[]) (t' := SetTable.popped ⟨mask, ⟨[j]⟩, dum, fin, led, mov, plain⟩ 0) (S' := fun _ => false) ho hex hd (fun e he => by simp at he) (fun k => by simp) (by decide) hfit
      exact h _ tk dr (Heap.SameBut.update ..) st.2
    refine wpAny_bind (wpAny_bind (wpAny_askSetting (wpAny_pure ?_)))
    split
    · exact wpAny_bind (wpAny_choose1 (wpAny_bind (wpAny_mono (fin2 _) (fun _ _ q => wpAny_pure q) fun _ _ z => z)))
    · refine wpAny_bind (wpAny_of_eq (a := ()) (by cases led <;> rfl) ?_)
      exact wpAny_bind (wpAny_pure (wpAny_bind (wpAny_mono (fin2 _) (fun _ _ q => wpAny_pure q) fun _ _ z => z)))
theorem noBool_set : typeLookup (.type "set") "__bool__" = pure none := by rw [typeLookup_type, builtinLookup_eq_fast]; kernel_rfl
theorem truthySet {prog : Program} {w : World} {A : Around} {E : Value → Shared → Prop} {s : Shared} {a : Addr} {S : Int → Bool} {n : Nat} {Q : Bool → Shared → Prop} (hS : s.heap.SetOf (intKind prog w) a S n)
    (h : Q (n != 0) { s with toks := s.toks + 1 + 1 }) : wpAny (model prog w) A (truthy (.ref a)) Q E s := by
  obtain ⟨o, es, ep, t, ho, hex, hd, hel, hmem, hb, hf, hsz⟩ := hS
  have hb' : es.size < 4096 := hb
  have hT : s.TypeIs (.ref a) "set" := ⟨o, ho, hex.1⟩
  have hne : ((es.size : Int) != 0) = (n != 0) := by
    rw [hsz]; cases n <;> simp <;> omega
  have key : wpAny (model prog w) A (runValue (.builtin "len" ⟨[.ref a], []⟩)) (fun r s' => r = .int es.size (s.toks + 1) ∧ Q (n != 0) s') E s := by
    refine wpAny_runValue (codeAny_builtin entry_len ?_)
    rw [Around.under_plainId plain_len _]
    exact wpAny_mono (wpAny_len_body_set (Q := fun r s' => r = .int es.size (s.toks + 1) ∧ Q (n != 0) s') ho hex hd hf (by omega) ⟨rfl, h⟩)
      (fun fin s' h' => by obtain ⟨r, rfl, hq⟩ := h'; exact hq) fun _ _ e => e
  unfold truthy
  refine wpAny_bind (wpAny_callSpecial?_none (name := Str.ofString "__bool__") hT noBool_set ?_)
  refine wpAny_bind (wpAny_specialOf (name := Str.ofString "__len__") hT PySem.F.slot_set_len.lookup ?_)
  exact wpAny_bind (wpAny_mono key (fun r s' h' => by obtain ⟨rfl, hq⟩ := h'; exact wpAny_pure (hne ▸ hq)) fun _ _ e => e)

theorem call_set_pop {prog : Program} {w : World} {A : Around} {E : Value → Shared → Prop} {s : Shared} {a : Addr} {i : Int} {Q : Value → Shared → Prop} (hS : s.heap.SetOf (intKind prog w) a (fun k => decide (k = i)) 1)
    (h : ∀ h' t dr, Heap.SameBut a s.heap h' → h'.SetOf (intKind prog w) a (fun _ => false) 0 → Q (.int i t) { s with heap := h', drawn := dr }) : wpAny (model prog w) A (call (.builtin "set.pop") [.ref a]) Q E s := by
  refine wpAny_call_entry PySem.F.slot_set_pop hS.typeIs PySem.F.entry_set_pop ?_ (PySem.F.args_set_pop_1 _)
  unfold Builtin.«set.pop» Builtin.Frozenset.noArgs
  refine wpAny_bind (wpAny_pure ?_)
  refine wpAny_bind (setPop1 hS fun h' t dr hsb hS' => ?_)
  exact wpAny_pure ⟨_, rfl, h h' t dr hsb hS'⟩
theorem getMethod_set_pop {prog : Program} {w : World} {A : Around} {E : Value → Shared → Prop} {s : Shared} {a : Addr} {S : Int → Bool} {n : Nat} {pl : Sem Bool} {Q : Value × List Value → Shared → Prop} (hS : s.heap.SetOf (intKind prog w) a S n) (h : Q (.builtin "set.pop", [.ref a]) s) :
    wpAny (model prog w) A (getMethod (.ref a) "pop" pl) Q E s :=
  getMethod_builtin hS.typeIs PySem.F.plainAttrs_set PySem.F.slot_set_pop PySem.F.type_set_pop hS.noDict h
end
end Mine
end
section -- S29
open PySem PySem.W PyProof.Rows PySem.Calls PySem.Spec
set_option Elab.async false
set_option maxRecDepth 100000
set_option linter.unusedVariables false
set_option autoImplicit false
set_option pp.maxSteps 900
namespace Mine
section
variable {W : Wd} {f : Fd} {ρ : List Vr} {μ : Mu} {n : Nat}
noncomputable abbrev SetA (W : Wd) (h : Heap) (a : Addr) (S : Int → Bool) (n : Nat) : Prop := h.SetOf (intKind PySem.Challenge.pw_yj0022_01 W.w) a S n
theorem setOf_at {h h' : Heap} {a : Addr} {S : Int → Bool} {n : Nat} (x : SetA W h a S n) (k : ∀ o, h.get? a = some o → h'.get? a = some o) : SetA W h' a S n :=
  let ⟨o, es, ep, t, ho, r⟩ := x; ⟨o, es, ep, t, k o ho, r⟩
theorem set_notab {h : Heap} {a : Addr} {S : Int → Bool} {n : Nat} (I : Inv W h) (x : SetA W h a S n) : ¬ isTab a := by
  obtain ⟨o, es, ep, t, ho, hex, hd, _⟩ := x
  exact cls_notab I ho (by rw [hex.1]; simp)
theorem setOf_kp {Z : Addr → Prop} {s s' : Shared} {a : Addr} {S : Int → Bool} {n : Nat} (I : Inv W s.heap) (k : Kp Z s s') (hz : ¬ Z a) (x : SetA W s.heap a S n) : SetA W s'.heap a S n :=
  setOf_at x fun o e => k.keep _ o e hz (set_notab I x)

/-- x = set() -/
theorem setNew {A : Around} {s : Shared} {x : Str} {px p pos pos' : Pos} {i : Nat} {Q : Flow → Shared → Prop} (V : W.Ok) (I : Inv W s.heap) (F : Fm W f ρ μ s.heap)
    (hx : f.nm[i]? = some x) (hk : f.env.kindOf x = some .local ∨ f.env.kindOf x = some .cell ∧ f.st = true) (hg : f.env.kindOf "set" = some .globalImplicit)
    (hs : swapsWith (.Call (.Name "set" p) [] [] pos) (some (.Name x px)) pos'.line f.env = pure false)
    (hv : eval (.Call (.Name "set" p) [] [] pos) f.env = (do callWith pos (← eval (.Name "set" p) f.env) [] (backTo pos (starEach [] f.env)) (backToKw pos (keywordEach [] f.env))))
    (r : Rm n A) (h : ∀ a s', s.heap.objs.size ≤ a → SetA W s'.heap a (fun _ => false) 0 → Kp μ.Z s s' → Inv W s'.heap → Fm W f (ρ.set i (.val (.val (.ref a)))) μ s'.heap → Q .next s') :
    wpAny W.M A (exec (.Assign [.Name x px] (.Call (.Name "set" p) [] [] pos) pos') f.env) Q Fz s := by
  refine wpAny_Assign_Name (hs := hs) ?_
  rw [hv]
  refine wpAny_bind ((Ev.bname (n := n) (v := .type "set") V hg (by kernel_rfl) (by decide +kernel)).use r I F fun v s1 k1 I1 F1 i1 => ?_)
  obtain rfl := D.Is.val_iff.mp i1
  refine callWith_of (P := Inv W) rfl Kept.type (evalArgs_of rfl ?_)
  refine wpAny_pure ⟨I1, call_set_0 fun led => ?_⟩
  have kq : Kq No s1.heap (s1.heap.push { cls := .type "set", dict := none, data := .set #[] 0 (.fresh 0 0 led) }) := .push _ _
  have k2 : Kp No s1 { s1 with heap := s1.heap.push { cls := .type "set", dict := none, data := .set #[] 0 (.fresh 0 0 led) } } := kq.kp (tk := s1.toks) fun _ _ z => z
  have I2 := I1.step V kq fun _ z => z.elim
  have F2 := F1.step I1 k2
  have hS : SetA W (s1.heap.push { cls := .type "set", dict := none, data := .set #[] 0 (.fresh 0 0 led) }) s1.heap.objs.size (fun _ => false) 0 := (setObjOf_fresh led).setOf (Heap.get?_push_size _ rfl) (by decide)
  refine sto V I2 F2 hx hk (d := .val (.ref s1.heap.objs.size)) D.Is.val fun s3 k3 I3 F3 => ?_
  have hz : ¬ μ.Z s1.heap.objs.size := fun z => absurd (F1.lt _ (.inr z)).1 (Nat.lt_irrefl _)
  exact h s1.heap.objs.size s3 k1.size (setOf_kp I2 k3 hz hS) ((k1.trans0 k2).up.trans k3 fun _ z => .inl z) I3 F3
end
end Mine
end
section -- S30
open PySem PySem.W PyProof.Rows PySem.Calls PySem.Spec
set_option Elab.async false
set_option maxRecDepth 100000
set_option linter.unusedVariables false
set_option autoImplicit false
set_option pp.maxSteps 900
namespace Mine
section
variable {W : Wd} {f : Fd} {ρ : List Vr} {μ : Mu} {n : Nat}
/-- x = {y}, y an int -/
theorem setOne {A : Around} {s : Shared} {x z : Str} {px pz pos pos' : Pos} {i j : Nat} {w : Int} {Q : Flow → Shared → Prop} (V : W.Ok) (I : Inv W s.heap) (F : Fm W f ρ μ s.heap)
    (hx : f.nm[i]? = some x) (hk : f.env.kindOf x = some .local ∨ f.env.kindOf x = some .cell ∧ f.st = true) (hz : f.nm[j]? = some z) (hd : ρ[j]? = some (Vr.val (.int w))) (hkz : f.env.kindOf z = some .local)
    (hcode : kdsCode W.K f.env.code = true) (hb : (z == ("__debug__" : Str)) = false)
    (h : ∀ a s', s.heap.objs.size ≤ a → SetA W s'.heap a (fun k => decide (k = w)) 1 → Kp μ.Z s s' → Inv W s'.heap → Fm W f (ρ.set i (.val (.val (.ref a)))) μ s'.heap → Q .next s') :
    wpAny W.M A (exec (.Assign [.Name x px] (.Set [.Name z pz] 0 pos) pos') f.env) Q Fz s := by
  refine wpAny_Assign_Name (hs := by rfl) ?_
  rw [arm_eval_Set]
  refine wpAny_bind (wpAny_standAt (wpAny_bind (kds_main I.K hcode fun b => ?_)))
  obtain ⟨v, H, iv⟩ := F.val j z _ hz hd
  obtain ⟨t, rfl⟩ := D.Is.int_iff.mp iv
  obtain ⟨m, hn, hm⟩ : ∃ m, s.heap.Ns f.env.locals m ∧ m z = some (.int w t) := by
    rcases H with ⟨_, m, hn, e⟩ | ⟨a | a, _⟩
    · exact ⟨m, hn, e⟩
    · rw [hkz] at a; cases a
    · rw [hkz] at a; cases a
  show wpAny W.M A (setDisplay .oneByOne b [(false, do let v ← eval (.Name z pz) f.env; standAt pos; pure v)]) _ _ _
  refine Set1_display (i := w) (fun h' k => wpAny_bind (wpAny_Name (wpAny_loadName_local F.kind hkz (hn.at' fun o e => k _ o e) hm (wpAny_bind (wpAny_standAt (wpAny_pure ⟨t, rfl, rfl⟩)))) hb)) fun h' tk k hsz hS => ?_
  have kq : Kq No s.heap h' := .all k (Nat.le_of_lt hsz)
  have k2 : Kp No s { s with heap := h', toks := tk } := kq.kp fun _ _ z => z
  have I2 : Inv W h' := I.step V kq fun _ z => z.elim
  have F2 := F.step I k2
  refine sto V I2 F2 hx hk (d := .val (.ref s.heap.objs.size)) D.Is.val fun s3 k3 I3 F3 => ?_
  have nz : ¬ μ.Z s.heap.objs.size := fun z => absurd (F.lt _ (.inr z)).1 (Nat.lt_irrefl _)
  exact h s.heap.objs.size s3 (Nat.le_refl _) (setOf_kp I2 k3 nz hS) (k2.up.trans k3 fun _ z => .inl z) I3 F3

noncomputable def flatD : D → Bool
  | .val _ | .int _ | .str _ => true
  | _ => false
noncomputable def flatV : Vr → Bool
  | .un => true
  | .val d => flatD d
  | .box _ => false
theorem flatD.is {Y Y' : Addr → Prop} {h h' : Heap} {d : D} {v : Value} (hd : flatD d = true) (i : D.Is Y h d v) : D.Is Y' h' d v := by
  cases d <;> simp [flatD] at hd <;> simpa only [D.Is] using i
/-- a set is changed, of which nothing is known -/
theorem Fm.setCh {h h' : Heap} {a : Addr} {S : Int → Bool} {k : Nat} (F : Fm W f ρ μ h) (hfl : ρ.all flatV = true) (hS : SetA W h a S k) (hsb : Heap.SameBut a h h') : Fm W f ρ μ h' := by
  obtain ⟨o, es, ep, tt, ho, hex, hdd, _⟩ := hS
  have kns : ∀ L m, h.Ns L m → h'.Ns L m := fun L m x => x.sameBut hsb fun q => by
    obtain ⟨o', es', ep', ho', hd', _⟩ := x
    rw [q, ho] at ho'; cases ho'; rw [hdd] at hd'; cases hd'
  have kc : ∀ c v, h.IsCell c v → h'.IsCell c v := fun c v x => x.sameBut hsb fun q => by
    obtain ⟨o', ho', hd'⟩ := x
    rw [q, ho] at ho'; cases ho'; rw [hdd] at hd'; cases hd'
  have fl : ∀ i r, ρ[i]? = some r → flatV r = true := fun i r e => List.all_eq_true.mp hfl _ (List.mem_of_getElem? e)
  refine ⟨F.kind, F.glob, F.blt, F.nod, let ⟨m, hm⟩ := F.ns; ⟨m, kns _ _ hm⟩, F.nsZ, fun st y hy hyk => ?_, F.ap, fun i y d hi hd => ?_, fun i y l hi hd => ?_, fun b y => by rw [hsb.1]; exact F.lt b y, F.low, F.base⟩
  · obtain ⟨c, v, l, hc, z⟩ := F.cel st y hy hyk
    exact ⟨c, v, l, kc _ _ hc, z⟩
  · obtain ⟨v, H, id⟩ := F.val i y d hi hd
    refine ⟨v, ?_, flatD.is (fl _ _ hd) id⟩
    rcases H with ⟨a', m, hn, e⟩ | ⟨a', c, l, hc⟩
    · exact .inl ⟨a', m, kns _ _ hn, e⟩
    · exact .inr ⟨a', c, l, kc _ _ hc⟩
  · have := fl _ _ hd; cases this
/-- x = y.pop(), y a set of one int -/
theorem setPopTo {A : Around} {s : Shared} {x z : Str} {px pz pa pos pos' : Pos} {i j : Nat} {a : Addr} {w : Int} {Q : Flow → Shared → Prop} (V : W.Ok) (r : Rm n A) (I : Inv W s.heap) (F : Fm W f ρ μ s.heap)
    (hx : f.nm[i]? = some x) (hk : f.env.kindOf x = some .local ∨ f.env.kindOf x = some .cell ∧ f.st = true) (hz : f.nm[j]? = some z) (hd : ρ[j]? = some (Vr.val (.val (.ref a)))) (hS : SetA W s.heap a (fun k => decide (k = w)) 1) (hnY : ¬ Yo f μ a) (haB : W.B ≤ a)
    (hb : (z == ("__debug__" : Str)) = false) (hb2 : (z == ("__classdict__" : Str)) = false) (hline : (pa.endLine == pos.line) = true)
    (hbase : attributeBase (.Name z pz) "pop" f.env (eval (.Name z pz) f.env) = eval (.Name z pz) f.env) (hfew : methodCallForm (([] : List Expr).length + ([] : List Keyword).length) (backTo pos (starEach [] f.env)) (backToKw pos (keywordEach [] f.env)) = true)
    (hs : swapsWith (.Call (.Attribute (.Name z pz) "pop" pa) [] [] pos) (some (.Name x px)) pos'.line f.env = pure false)
    (hfl : ρ.all flatV = true)
    (h : ∀ s', SetA W s'.heap a (fun _ => false) 0 → Kp (fun b => μ.Z b ∨ b = a) s s' → Inv W s'.heap → Fm W f (ρ.set i (.val (.int w))) μ s'.heap → Q .next s') :
    wpAny W.M A (exec (.Assign [.Name x px] (.Call (.Attribute (.Name z pz) "pop" pa) [] [] pos) pos') f.env) Q Fz s := by
  refine wpAny_Assign_Name (hs := hs) ?_
  rw [arm_eval_Call, hbase]
  refine wpAny_bind ((Ev.name (n := n) j hz hd hb hb2).use r I F fun v s1 k1 I1 F1 i1 => wpAny_bind (wpAny_standAt ?_))
  obtain rfl := D.Is.val_iff.mp i1
  have hS1 := setOf_kp I k1 (fun z => z) hS
  unfold methodCall calleeOf methodCallPos
  rw [hfew]
  simp only [Bool.not_true, Bool.false_or, if_true]
  refine wpAny_bind (wpAny_holding (getMethod_set_pop hS1 ?_))
  rw [if_pos hline]
  refine wpAny_bind (wpAny_pure ?_)
  refine callWith_of (P := Inv W) rfl Kept.builtin (evalArgs_of rfl ?_)
  refine wpAny_pure ⟨I1, call_set_pop hS1 fun h' t dr hsb hS' => ?_⟩
  have hnt := set_notab I1 hS1
  have kq : Kq (fun b => b = a) s1.heap h' := by
    obtain ⟨o, es, ep, tt, ho, hex, hdd, _⟩ := hS1
    exact Kq.one hsb ho fun c => by obtain ⟨_, vs, e⟩ := c; rw [hdd] at e; cases e
  have hB : ∀ b, b = a → W.B ≤ b := fun b e => e ▸ haB
  have I2 : Inv W h' := I1.step V kq hB
  have k2 : Kp (fun b => b = a) s1 { s1 with heap := h', drawn := dr } := by
    have := kq.kp (s := s1) (tk := s1.toks) (V.high hB)
    exact ⟨this.keep, this.code, this.tab, this.size, this.gens, this.bare, this.os⟩
  have F2 := F1.setCh hfl hS1 hsb
  refine sto V (s := { s1 with heap := h', drawn := dr }) I2 F2 hx hk (d := .int w) D.Is.int fun s3 k3 I3 F3 => ?_
  exact h s3 (setOf_kp I2 k3 (fun z => hnY (.inr z)) hS') (((k1.weaken fun b z => z.elim : Kp (fun b => μ.Z b ∨ b = a) s s1).trans k2 fun b z => .inl (.inr z)).trans k3 fun b z => .inl (.inl z)) I3 F3
end
end Mine
end
section -- S31
open PySem PySem.W PyProof.Rows PySem.Calls PySem.Spec
set_option Elab.async false
set_option maxRecDepth 100000
set_option linter.unusedVariables false
set_option autoImplicit false
set_option pp.maxSteps 900
namespace Mine
section
variable {W : Wd} {f : Fd} {ρ : List Vr} {μ : Mu} {n : Nat}
noncomputable abbrev nmP : List Str := [S "w", S "base", S "more_than", S "show", S "seen", S "need", S "ws", S "d"]
/-- the body of compute_powers up to its first handing back -/
theorem powBody {A : Around} {s : Shared} {w : Int} {X : Addr → Prop} {env : Env} {lo : Nat} {rest rest2 : List Stmt} {p1 p2 p3 p4 q1 q2 q3 q4 r1 r2 r3 r4 t1 t2 t3 t4 t5 t6 t7 t8 t9 t10 t11 t12 t13 t14 t15 t16 u1 u2 u3 u4 u5 u6 u7 u8 : Pos} (V : W.Ok) (hw : w ≤ 2048) (r : Rm 3 A) (I : Inv W s.heap)
    (F : Fm W ⟨X, env, nmP, lo, true⟩ [.val (.int w), .val (.int 5), .val (.int 2048), .val (D.bool false), .un, .un, .un, .un] μ s.heap)
    (hloc : ∀ x ∈ nmP, env.kindOf x = some .local) (hset : env.kindOf "set" = some .globalImplicit) (hcode : kdsCode W.K env.code = true) (hline : (t5.endLine == t6.line) = true)
    (hbase : attributeBase (.Name (S "ws") t4) "pop" env (eval (.Name (S "ws") t4) env) = eval (.Name (S "ws") t4) env)
    (hs1 : swapsWith (.Call (.Name "set" p2) [] [] p3) (some (.Name (S "seen") p1)) p4.line env = pure false)
    (hs2 : swapsWith (.Call (.Name "set" q2) [] [] q3) (some (.Name (S "need") q1)) q4.line env = pure false)
    (hs3 : swapsWith (.Call (.Attribute (.Name (S "ws") t4) "pop" t5) [] [] t6) (some (.Name (S "w") t3)) t7.line env = pure false)
    (hs4 : swapsWith (.Dict [] [] u2) (some (.Name (S "d") u1)) u3.line env = pure false) :
    wpAny W.M A (execs (.Assign [.Name (S "seen") p1] (.Call (.Name "set" p2) [] [] p3) p4 :: .Assign [.Name (S "need") q1] (.Call (.Name "set" q2) [] [] q3) q4 :: .Assign [.Name (S "ws") r1] (.Set [.Name (S "w") r2] 0 r3) r4 ::
      .While (.Name (S "ws") t1) (.Assign [.Name (S "w") t3] (.Call (.Attribute (.Name (S "ws") t4) "pop" t5) [] [] t6) t7 ::
        .If (.BoolOp .Or [.Compare (.Name (S "w") t8) [.In] [.Name (S "seen") t9] t10, .Compare (.Name (S "w") t11) [.LtE] [.Name (S "more_than") t12] t13] t14) [.Continue t15] [] t16 :: rest) [] t2 ::
      .Assign [.Name (S "d") u1] (.Dict [] [] u2) u3 :: .If (.UnaryOp .Not (.Name (S "need") u4) u5) [.Return (some (.Name (S "d") u6)) u7] [] u8 :: rest2) env)
      (fun fl s' => ∃ v, fl = .ret v ∧ Kp μ.Z s s' ∧ Inv W s'.heap) Fz s := by
  refine wpAny_execs_cons (setNew (f := ⟨X, env, nmP, lo, true⟩) (n := 3) (i := 4) V I F rfl (.inl (hloc _ (by simp))) hset hs1 rfl r fun a1 s2 ha1 hS1 k2 I2 F2 => ?_)
  refine wpAny_execs_cons (setNew (f := ⟨X, env, nmP, lo, true⟩) (n := 3) (i := 5) V I2 F2 rfl (.inl (hloc _ (by simp))) hset hs2 rfl r fun a2 s3 ha2 hS2 k3 I3 F3 => ?_)
  have nz1 : ¬ μ.Z a1 := fun z => absurd (F.lt a1 (.inr z)).1 (Nat.not_lt.mpr ha1)
  have nz2 : ¬ μ.Z a2 := fun z => absurd (F2.lt a2 (.inr z)).1 (Nat.not_lt.mpr ha2)
  have hS1a := setOf_kp I2 k3 nz1 hS1
  refine wpAny_execs_cons (setOne (f := ⟨X, env, nmP, lo, true⟩) (i := 6) (j := 0) V I3 F3 rfl (.inl (hloc _ (by simp))) rfl rfl (hloc _ (by simp)) hcode (by decide) fun a3 s4 ha3 hS3 k4 I4 F4 => ?_)
  have hS1b := setOf_kp I3 k4 nz1 hS1a
  have hS2b := setOf_kp I3 k4 nz2 hS2
  have ny3 : ¬ Yo ⟨X, env, nmP, lo, true⟩ μ a3 := fun z => absurd (F3.lt a3 z).1 (Nat.not_lt.mpr ha3)
  have hB3 : W.B ≤ a3 := Nat.le_trans I3.size ha3
  have k14 : Kp μ.Z s s4 := (k2.trans k3 fun _ z => .inl z).trans k4 fun _ z => .inl z
  have l1 : a1 < s3.heap.objs.size := by obtain ⟨o, _, _, _, ho, _⟩ := hS1a; exact Heap.lt_size ho
  have l2 : a2 < s3.heap.objs.size := by obtain ⟨o, _, _, _, ho, _⟩ := hS2; exact Heap.lt_size ho
  have n13 : a1 ≠ a3 := fun q => absurd (q ▸ l1) (Nat.not_lt.mpr ha3)
  have n23 : a2 ≠ a3 := fun q => absurd (q ▸ l2) (Nat.not_lt.mpr ha3)
  refine wpAny_execs_cons (whl_start 2 ?_)
  refine whl_turn (k := 1) PassesOwn.never (wpAny_isTrue_value (he := by rfl) ((Ev.name (f := ⟨X, env, nmP, lo, true⟩) (n := 3) 6 rfl rfl).use r I4 F4 fun v s5 k5 I5 F5 i5 => ?_))
  obtain rfl := D.Is.val_iff.mp i5
  have hS3' := setOf_kp I4 k5 (fun z => z) hS3
  refine truthySet hS3' (WhlIf.yes rfl ?_)
  refine wpAny_execs_cons (setPopTo (f := ⟨X, env, nmP, lo, true⟩) (n := 3) (i := 0) (j := 6) (s := { s5 with toks := s5.toks + 1 + 1 }) V r I5 F5 rfl (.inl (hloc _ (by simp))) rfl rfl hS3' ny3 hB3 (by decide) (by decide) hline hbase rfl hs3 rfl fun s6 hS6 k6 I6 F6 => ?_)
  have hS1c0 := setOf_kp I4 k5 (fun z => z) hS1b
  have hS2c0 := setOf_kp I4 k5 (fun z => z) hS2b
  have hS1c := setOf_kp (Z := fun b => μ.Z b ∨ b = a3) I5 (s := { s5 with toks := s5.toks + 1 + 1 }) k6 (fun z => z.elim nz1 n13) hS1c0
  have hS2c := setOf_kp (Z := fun b => μ.Z b ∨ b = a3) I5 (s := { s5 with toks := s5.toks + 1 + 1 }) k6 (fun z => z.elim nz2 n23) hS2c0
  refine wpAny_execs_cons (wpAny_If (wpAny_isTrue_BoolOp (wpAny_allTrue_Or_cons (wpAny_isTrue_Compare1 (hm := by rfl) ((Ev.name (f := ⟨X, env, nmP, lo, true⟩) (n := 3) 0 rfl rfl).use r I6 F6 fun v s7 k7 I7 F7 i7 => (Ev.name (f := ⟨X, env, nmP, lo, true⟩) (n := 3) 4 rfl rfl).use r I7 F7 fun v' s8 k8 I8 F8 i8 => ?_)))))
  obtain ⟨tw, rfl⟩ := D.Is.int_iff.mp i7
  obtain rfl := D.Is.val_iff.mp i8
  have hS1d0 := setOf_kp I6 k7 (fun z => z) hS1c
  have hS1d := setOf_kp I7 k8 (fun z => z) hS1d0
  have hS2d0 := setOf_kp I6 k7 (fun z => z) hS2c
  have hS2d := setOf_kp I7 k8 (fun z => z) hS2d0
  have hS6d0 := setOf_kp I6 k7 (fun z => z) hS6
  have hS6d := setOf_kp I7 k8 (fun z => z) hS6d0
  refine wpAny_inSet_of (intKind_is _ _ w tw) rfl hS1d (wpAny_truthy_bool ?_)
  rw [if_neg (by decide)]
  refine wpAny_allTrue_Or_cons (wpAny_mono (Ts.cmp (W := W) (f := ⟨X, env, nmP, lo, true⟩) (n := 3) (Ev.name 0 rfl rfl) (Ev.name 2 rfl rfl) Mine.F2.leI (hm := by rfl) A r { s8 with toks := s8.toks + 1 } μ I8 F8) (fun c s9 p => ?_) fun _ _ z => z)
  obtain ⟨rfl, k9, I9⟩ := p
  rw [if_pos (by simpa using hw), if_pos rfl]
  have F9 := F8.step (s := { s8 with toks := s8.toks + 1 }) I8 k9
  have hS2e := setOf_kp (s := { s8 with toks := s8.toks + 1 }) I8 k9 (fun z => z) hS2d
  have hS6e := setOf_kp (s := { s8 with toks := s8.toks + 1 }) I8 k9 (fun z => z) hS6d
  refine wpAny_execs_cons (wpAny_Continue ?_)
  refine whl_turn (k := 0) PassesOwn.never (wpAny_isTrue_value (he := by rfl) ((Ev.name (f := ⟨X, env, nmP, lo, true⟩) (n := 3) 6 rfl rfl).use r I9 F9 fun v s10 k10 I10 F10 i10 => ?_))
  obtain rfl := D.Is.val_iff.mp i10
  refine truthySet (setOf_kp I9 k10 (fun z => z) hS6e) (WhlIf.no rfl (wpAny_execs_nil ?_))
  -- behind the loop
  have hS2f := setOf_kp I9 k10 (fun z => z) hS2e
  refine wpAny_execs_cons (wpAny_Assign_Name (hs := hs4) (wpAny_Dict_empty ?_))
  have kq : Kq No s10.heap (s10.heap.push { cls := .type "dict", data := .dict #[] }) := .push _ _
  have k11 : Kp No s10 { s10 with heap := s10.heap.push { cls := .type "dict", data := .dict #[] }, toks := s10.toks + 1 + 1 } := kq.kp fun _ _ z => z
  have I11 := I10.step V kq fun _ z => z.elim
  have F11 := F10.step I10 k11
  have hS2g : SetA W (s10.heap.push { cls := .type "dict", data := .dict #[] }) a2 _ _ := setOf_kp I10 k11 (fun z => z) hS2f
  refine sto V (s := { s10 with heap := s10.heap.push { cls := .type "dict", data := .dict #[] }, toks := s10.toks + 1 + 1 }) I11 F11 (x := S "d") (i := 7) rfl (.inl (hloc _ (by simp))) (d := .val (.ref s10.heap.objs.size)) D.Is.val fun s12 k12 I12 F12 => ?_
  have hS2h := setOf_kp I11 k12 nz2 hS2g
  refine wpAny_execs_cons (wpAny_If (wpAny_isTrue_Not (wpAny_isTrue_value (he := by rfl) ((Ev.name (f := ⟨X, env, nmP, lo, true⟩) (n := 3) 5 rfl rfl).use r I12 F12 fun v s13 k13 I13 F13 i13 => ?_))))
  obtain rfl := D.Is.val_iff.mp i13
  refine truthySet (setOf_kp I12 k13 (fun z => z) hS2h) ?_
  rw [if_pos (by decide)]
  refine wpAny_execs_cons (wpAny_Return_some ((Ev.name (f := ⟨X, env, nmP, lo, true⟩) (n := 3) 7 rfl rfl).use r (s := { s13 with toks := s13.toks + 1 + 1 }) I13 F13 fun v s14 k14' I14 F14 i14 => ?_))
  refine ⟨v, rfl, ?_, I14⟩
  have ne : ∀ {Z : Addr → Prop} {b : Addr} {k : Nat}, No b → Z b ∨ k ≤ b := fun z => z.elim
  have z3 : s.heap.objs.size ≤ a3 := Nat.le_trans (k2.trans k3 fun _ z => .inl z).size ha3
  have c6 : Kp μ.Z s s6 := ((k14.trans k5 fun _ z => z.elim).trans (Kp.toks s5 _) fun _ z => z.elim).trans k6 fun b z => z.elim .inl fun q => .inr (q ▸ z3)
  have c9 : Kp μ.Z s s9 := (((c6.trans k7 fun _ z => z.elim).trans k8 fun _ z => z.elim).trans (Kp.toks s8 _) fun _ z => z.elim).trans k9 fun _ z => z.elim
  have c12 : Kp μ.Z s s12 := ((c9.trans k10 fun _ z => z.elim).trans k11 fun _ z => z.elim).trans k12 fun _ z => .inl z
  exact ((c12.trans k13 fun _ z => z.elim).trans (Kp.toks s13 _) fun _ z => z.elim).trans k14' fun _ z => z.elim
set_option maxHeartbeats 2000000 in
/-- compute_powers for small w: the table that it makes is never read -/
theorem c_powers {w : Int} (V : W.Ok) (hw : w ≤ 2048) {A : Around} (r : Rm 4 A) {s : Shared} {Y : Addr → Prop} {vs : List Value} (I : Inv W s.heap) (y : Yk W Y s.heap) (il : D.IsL Y s.heap [.int w, .int 5, .int 2048] vs) :
    wpAny W.M A (call (.ref 43) vs) (fun v s' => Kp No s s' ∧ Inv W s'.heap) Fz s := by
  have il4 : D.IsL Y s.heap [.int w, .int 5, .int 2048, D.bool false] (vs ++ [.bool false]) := il.append (.cons D.Is.val .nil)
  have hl := il.length
  rcases vs with _ | ⟨v0, _ | ⟨v1, _ | ⟨v2, _ | _⟩⟩⟩ <;> simp at hl
  refine wpAny_call (fnGo (nm := nmP) (k := 4) V r.depth I y il4 ⟨_, I.K _ _ rfl, rfl⟩ (cdAt rfl rfl rfl rfl _ I) rfl rfl rfl rfl (bindsAt (fun S' => by rfl) s I) (by decide) (by simp) (by decide +kernel) (fun s1 μ0 k1 I1 hz F1 => ?_))
  refine wpAny_mono (powBody V hw (r.deeper _) I1 F1 (fun x hx => ?_) rfl (by kernel_rfl) rfl rfl rfl rfl rfl rfl) (fun fl s' p => ?_) fun _ _ z => z.elim
  · simp only [nmP, List.mem_cons, List.not_mem_nil, or_false] at hx
    rcases hx with rfl | rfl | rfl | rfl | rfl | rfl | rfl | rfl <;> rfl
  · obtain ⟨v, rfl, kp, I'⟩ := p
    exact ⟨k1.trans kp fun b z => .inr (hz b z), I'⟩
end
end Mine
end
section -- S32
open PySem PySem.W PyProof.Rows PySem.Calls PySem.Spec
set_option Elab.async false
set_option maxRecDepth 100000
set_option linter.unusedVariables false
set_option autoImplicit false
set_option pp.maxSteps 600
namespace Mine
section
variable {W : Wd} {f : Fd} {ρ : List Vr} {μ : Mu} {n : Nat}
/-- a call of a def that keeps cells of its outer frame -/
theorem fnClo {A : Around} {s : Shared} {Y : Addr → Prop} {fa : Addr} {od : Option Addr} {fd : FuncData} {vs : List Value} {sc : Scope} {body : List Stmt} {ps un : List Str} {caps : List (Str × D)} {ds : List D} {d : D} (V : W.Ok) (r : Rm (n + 1) A) (I : Inv W s.heap) (y : Yk W Y s.heap)
    (h1 : s.heap.get? fa = some ⟨.type "function", od, .func fd, #[]⟩) (h2 : CodeIs s.heap fd.code fd.qualname) (h3 : fd.scope = sc) (h4 : fd.body = .stmts body) (h5 : fd.globals = mainGlobals) (h6 : fd.builtins = builtinsNs)
    (h7 : bindArgs fd ⟨vs, []⟩ = pure (ps.zip vs)) (h8 : ∀ q ∈ caps, ∃ c u, fd.closure.lookup q.1 = some c ∧ s.heap.IsCell c (some u) ∧ D.Is Y s.heap q.2 u)
    (il : D.IsL Y s.heap ds vs) (hlen : ds.length = ps.length)
    (hcell : ∀ x ∈ sc.names, x.2 ≠ .cell) (hloc : ∀ x ∈ ps, sc.names.lookup x = some .local) (hcap : ∀ q ∈ caps, sc.names.lookup q.1 = some .free) (hgen : sc.isGenerator = false) (hco : sc.isCoroutine = false) (hkf : sc.kind = .function)
    (hnod : (ps ++ (un ++ caps.map (·.1))).Nodup)
    (hrt : ∀ X L cl qual fa code, Rt W n (fdG sc cl qual fa code (ps ++ (un ++ caps.map (·.1))) X L) (ρG ds un.length caps) body d) :
    wpAny W.M A (call (.ref fa) vs) (Pv W Y s d) Fz s := by
  subst h3
  have hvl := il.length
  refine wpAny_call (codeAny_call_function r.depth h1 rfl hco hgen h4 h2.rec ?_)
  rw [h7]
  refine wpAny_pure (wpAny_newFunctionEnv hcell (fun x hx => hloc x.1 (List.of_mem_zip hx).1) (fun h' hns hsb => ?_) hkf)
  have keep : ∀ b o, s.heap.get? b = some o → h'.get? b = some o := fun b o e => hsb.extBut b o (Nat.ne_of_lt (Heap.lt_size e)) (Heap.get?_push_of_some _ e)
  have hsz : h'.objs.size = s.heap.objs.size + 1 := by rw [hsb.1, Heap.size_push]
  have kq : Kq No s.heap h' := .all keep (by rw [hsz]; exact Nat.le_succ _)
  have I1 : Inv W h' := I.step V kq fun _ z => z.elim
  refine ⟨I.lim.keeps keep, codeAny_func ?_⟩
  generalize hL : s.heap.objs.size = L at *
  have k1 : ∀ tk, Kp No s { s with heap := h', toks := tk } := fun tk => kq.kp fun _ _ z => z
  let μ0 : Mu := ⟨(· = L), fun _ => 0⟩
  have mv : ∀ cl qual code nm, Mv Y (Yo (fdG fd.scope cl qual fa code nm Y L) μ0) s.heap h' := fun cl qual code nm => ⟨fun b z => by
    rcases z with z | z
    · exact .inl z
    · exact .inr (by rw [hL]; exact Nat.le_of_eq z.symm), fun b o e _ t => keep b o e⟩
  have hWB : W.B ≤ L := by rw [← hL]; exact I.size
  have F3 : Fm W (fdG fd.scope fd.closure (fd.qualname ++ ".<locals>.") fa fd.code (ps ++ (un ++ caps.map (·.1))) Y L) (ρG ds un.length caps) μ0 h' := by
    refine ⟨hkf, rfl, rfl, hnod, ⟨_, hns⟩, rfl, (fun q => by cases q), (fun q => by cases q), fun i z d hi hd => ?_, fun i z l _ hl => (ρG_box hl).elim, fun b z => ?_, fun b z => Nat.le_of_eq (Eq.symm z), hWB⟩
    · have hi : (ps ++ (un ++ caps.map (·.1)))[i]? = some z := hi
      rcases Nat.lt_or_ge i ds.length with hl | hl
      · have hd' : ds[i]? = some d := by
          unfold ρG at hd
          rw [List.getElem?_append_left (by simpa using hl), List.getElem?_map] at hd
          cases e : ds[i]? with
          | none => rw [e] at hd; cases hd
          | some d' => rw [e] at hd; cases hd; rfl
        have hi' : ps[i]? = some z := by rwa [List.getElem?_append_left (by rw [← hlen]; exact hl)] at hi
        obtain ⟨u, hu, iu⟩ := il.get i hd'
        have hmem : (z, u) ∈ ps.zip vs := List.mem_of_getElem? (i := i) (by rw [List.getElem?_zip_eq_some]; exact ⟨hi', hu⟩)
        have hnz : ((ps.zip vs).map (·.1)).Nodup := by
          rw [zip_fst ps vs (by rw [hvl, hlen]; exact Nat.le_refl _)]
          exact (List.nodup_append.mp hnod).1.sublist (List.take_sublist _ _)
        exact ⟨u, .inl ⟨hloc z (List.mem_of_getElem? hi'), _, hns, lookup_rev hnz hmem⟩, iu.move (mv _ _ _ _)⟩
      · unfold ρG at hd
        rw [List.getElem?_append_right (by simpa using hl)] at hd
        rw [List.getElem?_append_right (by rw [← hlen]; exact hl)] at hi
        obtain ⟨hle, hd2⟩ := getElem?_pad hd
        rw [List.length_map] at hle hd2
        rw [← hlen, List.getElem?_append_right hle] at hi
        rw [List.getElem?_map] at hd2 hi
        cases hq : caps[i - ds.length - un.length]? with
        | none => rw [hq] at hd2; cases hd2
        | some q =>
          rw [hq] at hd2 hi
          cases hd2; cases hi
          have hqm := List.mem_of_getElem? hq
          obtain ⟨c, u, a, b, iu⟩ := h8 q hqm
          obtain ⟨o, ho, hdd⟩ := b
          exact ⟨u, .inr ⟨.inr (hcap q hqm), c, a, ⟨o, keep _ _ ho, hdd⟩⟩, iu.move (mv _ _ _ _)⟩
    · rcases z with z | z
      · have := y b z
        rw [hL] at this
        exact ⟨by rw [hsz]; exact Nat.lt_succ_of_lt this.1, this.2⟩
      · rw [show b = L from z]; exact ⟨by rw [hsz]; exact Nat.lt_succ_self _, hWB⟩
  rw [h5, h6]
  refine wpAny_mono (hrt Y L fd.closure _ fa fd.code _ (r.deeper _) _ μ0 I1 F3) (fun fl s' p => ?_) fun _ _ z => z.elim
  obtain ⟨v, rfl, kp, I', i'⟩ := p
  exact ⟨(k1 _).trans kp (fun b z => .inr (by rw [hL]; exact Nat.le_of_eq (Eq.symm z))), I', i'⟩
end
end Mine
end
section -- S33
open PySem PySem.W PyProof.Rows PySem.Calls PySem.Spec
set_option Elab.async false
set_option maxRecDepth 100000
set_option linter.unusedVariables false
set_option autoImplicit false
set_option pp.maxSteps 600
namespace Mine
section
variable {W : Wd} {f : Fd} {ρ : List Vr} {μ : Mu} {n : Nat}
theorem cutS_all {x : Str} : cutS x (some 0) (some (x.length : Int)) = x := by
  unfold cutS
  rw [if_pos]
  unfold Builtin.Str.strSliceIndices
  have h1 : ¬ ((0 : Int) < 0) := by decide
  have h2 : (1 : Int) > 0 := by decide
  have h3 : ¬ ((x.length : Int) < 0) := by omega
  simp only [h1, h2, h3, if_true, if_false]
  have h4 : max 0 (min (0 : Int) x.length) = 0 := by omega
  have h5 : max 0 (min (x.length : Int) x.length) = x.length := by omega
  rw [h4, h5]
  unfold sliceRange
  simp only [h2, if_true, List.length_map, List.length_range]
  split
  · have : ((x.length : Int) - 0 + 1 - 1) / 1 = x.length := by omega
    rw [this]; simp
  · have : x.length = 0 := by omega
    simp [this]
noncomputable def scopeOk (sc : Scope) (ps caps : List Str) : Bool :=
  (sc.names.all fun x => !(x.2 == .cell)) && (ps.all fun x => sc.names.lookup x == some .local) && (caps.all fun x => sc.names.lookup x == some .free)
theorem scopeOk.cell {sc : Scope} {ps caps : List Str} (h : scopeOk sc ps caps = true) : ∀ x ∈ sc.names, x.2 ≠ .cell := fun x hx => by
  unfold scopeOk at h
  simp only [Bool.and_eq_true] at h
  have := List.all_eq_true.mp h.1.1 x hx
  intro q; rw [q] at this; cases this
theorem scopeOk.loc {sc : Scope} {ps caps : List Str} (h : scopeOk sc ps caps = true) : ∀ x ∈ ps, sc.names.lookup x = some .local := fun x hx => by
  unfold scopeOk at h
  simp only [Bool.and_eq_true] at h
  simpa using List.all_eq_true.mp h.1.2 x hx
theorem scopeOk.cap {sc : Scope} {ps caps : List Str} (h : scopeOk sc ps caps = true) : ∀ x ∈ caps, sc.names.lookup x = some .free := fun x hx => by
  unfold scopeOk at h
  simp only [Bool.and_eq_true] at h
  simpa using List.all_eq_true.mp h.2 x hx
/-- a call of a def made in a body -/
theorem evCallF {fe : Expr} {args : List Expr} {pos : Pos} {fa : Addr} {od : Option Addr} {fd : FuncData} {ds : List D} {A : Around} {s : Shared} {Q : Value → Shared → Prop} (hf : Ev W n f ρ fe (.val (.ref fa))) (ha : EvL W n f ρ args ds)
    (ho : s.heap.get? fa = some ⟨.type "function", od, .func fd, #[]⟩) (r : Rm n A) (I : Inv W s.heap) (F : Fm W f ρ μ s.heap)
    (hc : ∀ s2 vs, Kp No s s2 → Inv W s2.heap → Fm W f ρ μ s2.heap → D.IsL (Yo f μ) s2.heap ds vs → wpAny W.M A (call (.ref fa) vs) Q Fz s2)
    (hs : (backTo pos (starEach args f.env)).any (·.1) = false := by rfl)
    (hv : eval (.Call fe args [] pos) f.env = (do callWith pos (← eval fe f.env) [] (backTo pos (starEach args f.env)) (backToKw pos (keywordEach [] f.env))) := by rfl) : wpAny W.M A (eval (.Call fe args [] pos) f.env) Q Fz s := by
  rw [hv]
  refine wpAny_bind (hf.use r I F fun v s1 k1 I1 F1 i1 => ?_)
  obtain rfl := D.Is.val_iff.mp i1
  refine callWith_of (P := FnAt fa) (by rw [hs]; rfl) keeps_F (evalArgs_of hs ?_)
  refine wpAny_mono (ha A r pos s1 μ I1 F1) (fun vs s2 p => ⟨?_, hc s2 vs (k1.trans0 p.1) p.2.1 (F1.step I1 p.1) p.2.2⟩) fun _ _ z => z
  exact ⟨_, _, _, _, (k1.trans0 p.1).keep _ _ ho (fun z => z) (cls_notab I ho (by simp))⟩
/-- the cell behind a name that is a cell -/
theorem Has.cell {env : Env} {h : Heap} {x : Str} {v : Value} {c : Addr} (H : Has env h x v) (hk : env.kindOf x = some .cell) (hc : env.cells.lookup x = some c) : h.IsCell c (some v) := by
  rcases H with ⟨a, _⟩ | ⟨_, c', l, hc'⟩
  · rw [hk] at a; cases a
  · rw [hc] at l; cases l; exact hc'
set_option maxHeartbeats 2000000 in
theorem c_inner {k : Int} (V : W.Ok) (h0 : 0 ≤ k) (h1 : k < 10000000000) (hl : (num k).length ≤ 1000) : Cl W 8 (.ref 50) [.str (num k)] (.int k) := by
  refine Cl.fn (nm := [S "s", S "DIGLIM", S "inner", S "w5pow"]) (k := 3) V (fnAt rfl rfl) (cdAt rfl rfl rfl rfl) rfl rfl rfl rfl ?_ (by decide) (by simp) (by decide +kernel) fun X L => ?_
  · intro vs h
    rcases vs with _ | ⟨v0, _ | _⟩ <;> simp at h
    rfl
  refine Rt.cons (Ex.assign 1 V Ev.int rfl (.inr ⟨rfl, rfl⟩)) ?_
  intro A r s μ I F
  refine wpAny_execs_cons (defGo (c := 49) (P := 45) (qual := Str.ofString "_str_to_int_inner.<locals>.inner") (i := 2) V I F (by simp [tabsL]) (by kernel_rfl) rfl rfl (by with_unfolding_all rfl) rfl (.inr ⟨rfl, rfl⟩) rfl rfl rfl fun fa doc pm code ctv s1 g1 g2 g3 g4 k1 I1 F1 => ?_)
  refine wpAny_execs_cons (wpAny_Assign_Name (hs := by rfl) ?_)
  apply evCall (n := 7)
  case F => exact F1
  case hf => exact Ev.gname (v := .ref 43) V rfl (by kernel_rfl)
  case ha => exact EvL.cons (by apply Ev.call; (case hf => exact Ev.bname (v := .builtin "len") V rfl (by kernel_rfl) (by decide +kernel)); (case ha => exact EvL.cons (Ev.name 0 rfl rfl) EvL.nil); (case hk => exact Kept.builtin); (case hc => exact Cl.lenS hl); all_goals rfl) (EvL.cons Ev.int (EvL.cons (Ev.name 1 rfl rfl) EvL.nil))
  case hk => exact Kept.ref (by kernel_rfl)
  case r => exact r
  case I => exact I1
  case hc =>
    intro s2 vs k2 I2 F2 il
    refine wpAny_mono (c_powers V (by omega) (r.le (by first | decide | omega)) I2 F2.yk il) (fun v s3 p => ?_) fun _ _ z => z
    obtain ⟨k3, I3⟩ := p
    have F3 := F2.step I2 k3
    have nz : ¬ μ.Z fa := fun z => absurd (F.lt fa (.inr z)).1 (Nat.not_lt.mpr g1)
    have k13 := k2.trans0 k3
    have ho3 := k13.keep _ _ g3 (fun z => z) (cls_notab I1 g3 (by simp))
    refine sto V I3 F3 (x := S "w5pow") (i := 3) rfl (.inr ⟨rfl, rfl⟩) (d := .val v) D.Is.val fun s4 k4 I4 F4 => ?_
    have ho4 := k4.keep _ _ ho3 nz (cls_notab I3 ho3 (by simp))
    have hc4 := (g4.step k13.code).step k4.code
    have kall : Kp μ.Z s s4 := (k1.trans k13 fun _ z => z.elim).trans k4 fun _ z => .inl z
    refine wpAny_execs_cons (wpAny_Return_some ?_)
    apply evCallF (n := 7)
    case F => exact F4
    case hf => exact Ev.name 2 rfl rfl
    case ha => exact EvL.cons Ev.int (EvL.cons (by apply Ev.call; (case hf => exact Ev.bname (v := .builtin "len") V rfl (by kernel_rfl) (by decide +kernel)); (case ha => exact EvL.cons (Ev.name 0 rfl rfl) EvL.nil); (case hk => exact Kept.builtin); (case hc => exact Cl.lenS hl); all_goals rfl) EvL.nil)
    case ho => exact ho4
    case r => exact r
    case I => exact I4
    case hc =>
      intro s5 vs k5 I5 F5 il5
      have ho5 := k5.keep _ _ ho4 (fun z => z) (cls_notab I4 ho4 (by simp))
      have hlv := il5.length
      rcases vs with _ | ⟨v0, _ | ⟨v1, _ | _⟩⟩ <;> simp at hlv
      obtain ⟨us, Hs, is⟩ := F5.val 0 (S "s") _ rfl rfl
      obtain ⟨ud, Hd, id⟩ := F5.val 1 (S "DIGLIM") _ rfl rfl
      refine wpAny_mono (fnClo (n := 6) (ps := [S "a", S "b"]) (un := []) (caps := [(S "s", .str (num k)), (S "DIGLIM", .int 2048)]) (d := .int k) V r I5 F5.yk ho5 (hc4.step k5.code) rfl rfl rfl rfl rfl ?hcaps il5 rfl (scopeOk.cell ?hsc) (scopeOk.loc ?hsc) (fun q hq => scopeOk.cap (caps := [S "s", S "DIGLIM"]) ?hsc q.1 ?hq) rfl rfl rfl (show ([S "a", S "b", S "s", S "DIGLIM"] : List Str).Nodup by decide +kernel) ?hrt) (fun v s6 p => ?fin) fun _ _ z => z
      case hsc => rfl
      case hq => exact List.mem_map_of_mem (f := Prod.fst) hq
      case hcaps =>
        intro q hq
        rcases List.mem_cons.mp hq with rfl | hq
        · exact ⟨_, us, rfl, Hs.cell rfl rfl, is⟩
        · rcases List.mem_cons.mp hq with rfl | hq
          · exact ⟨_, ud, rfl, Hd.cell rfl rfl, id⟩
          · cases hq
      case fin =>
        exact ⟨v, rfl, (kall.trans k5 fun _ z => z.elim).trans p.1 fun _ z => z.elim, p.2.1, p.2.2.drop fun _ z => .inl z⟩
      case hrt =>
        intro X' L' cl' qual' fa' code'
        have e0 : (((num k).length : Int) - 0 ≤ 2048) := by omega
        refine Rt.ife (b := true) (Ts.conv (Ts.cmp (Ev.bin (Ev.name 1 rfl rfl) (Ev.name 0 rfl rfl) Mine.F2.subI) (Ev.name 3 rfl rfl) Mine.F2.leI) (by simpa using e0)) (fun _ => ?_) (fun h => by cases h)
        refine Rt.ret ?_
        apply Ev.call
        case hf => exact Ev.bname (v := .type "int") V rfl (by kernel_rfl) (by decide +kernel)
        case ha => exact EvL.cons (Ev.sliceS V (Ev.name 2 rfl rfl) (EvP.some (Ev.name 0 rfl rfl)) (EvP.some (Ev.name 1 rfl rfl)) hl) EvL.nil
        case hk => exact Kept.type
        case hc => rw [cutS_all]; exact Cl.intNum h0 h1
        all_goals rfl
    all_goals rfl
  all_goals rfl
end
end Mine
end
section -- S34
open PySem PySem.W PyProof.Rows PySem.Calls PySem.Spec
set_option Elab.async false
set_option maxRecDepth 100000
set_option linter.unusedVariables false
set_option autoImplicit false
set_option pp.maxSteps 600
namespace Mine
section
variable {W : Wd} {f : Fd} {ρ : List Vr} {μ : Mu} {n : Nat}
set_option maxHeartbeats 2000000 in
theorem c_ifs {x : Str} {k : Int} (V : W.Ok) (hx : x.length ≤ 1000) (hx2 : (Txt.rstrip x).length ≤ 1000) (he : Txt.replace (Txt.rstrip x) (S "_") (S "") = num k) (h0 : 0 ≤ k) (h1 : k < 10000000000) (hl : (num k).length ≤ 1000) : Cl W 9 (.ref 57) [.str x] (.int k) := by
  refine Cl.fn1 (nm := [S "s"]) (k := 0) V (fnAt rfl rfl) (cdAt rfl rfl rfl rfl) rfl rfl rfl rfl ?_ (by decide) (by simp) (by simp) (by decide +kernel) (by decide +kernel) fun X L => ?_
  · intro vs h
    rcases vs with _ | ⟨v0, _ | _⟩ <;> simp at h
    rfl
  refine Rt1.cons (Ex1.assign (d := .str (num k)) 0 V ?_ rfl (.inl rfl)) ?_
  · rw [← he]
    refine Ev1.replace ?_ (by decide) hx2 (by decide)
    apply Ev.meth (id := "str.rstrip")
    case ho => exact Ev.name 0 rfl rfl
    case ha => exact EvL.nil
    case hgm => exact fun A s t pl Q h => GM.rstrip h
    case hc => exact Cl.rstrip hx
    all_goals rfl
  · refine Rt1.ret (Ev.one ?_)
    apply Ev.call
    case hf => exact Ev.gname (v := .ref 50) V rfl (by kernel_rfl)
    case ha => exact EvL.cons (Ev.name 0 rfl rfl) EvL.nil
    case hk => exact Kept.ref (by kernel_rfl)
    case hc => exact c_inner V h0 h1 hl
    all_goals rfl
end
end Mine
end
section -- S35
open PySem PySem.W PyProof.Rows PySem.Calls PySem.Spec
set_option Elab.async false
set_option maxRecDepth 100000
set_option linter.unusedVariables false
set_option autoImplicit false
set_option pp.maxSteps 600
namespace Mine
section
variable {W : Wd} {f : Fd} {ρ ρ' : List Vr} {μ : Mu} {n : Nat}
/-- t = value, whatever the target -/
theorem exAssignT {t value : Expr} {pos : Pos} {d : D} (he : Ev W n f ρ value d) (ha : Asn W n f ρ t d ρ') (hse : (assignEach [t] f.env).map (·.2) = [assign t f.env] := by rfl)
    (hs : swapsWithSole [t] value pos.line f.env = pure false := by rfl) (hw : swappedStores [t] value f.env = pure none := by rfl) : Ex W n f ρ (.Assign [t] value pos) ρ' := by
  intro A r s μ I F
  refine wpAny_Assign_stores (he.use r I F fun v s1 k1 I1 F1 i1 => ?_) hs hw
  rw [hse]
  have key : wpAny W.M A (assign t f.env v) (fun _ s' => Flow.next = .next ∧ ∃ μ', Af W f μ s ρ' μ' s') Fz s1 :=
    wpAny_mono (ha A r s1 μ v I1 F1 i1) (fun _ s2 p => ⟨rfl, μ, Af.pre k1 (.of (p.1.weaken fun b z => .inl z.1) p.2.1 p.2.2)⟩) fun _ _ z => z
  first
    | exact key
    | exact wpAny_bind (wpAny_holding (wpAny_mono key (fun _ _ x => wpAny_pure x) fun _ _ z => z))
    | exact wpAny_bind (wpAny_holding key)
end
end Mine
end
section -- S36
open PySem PySem.W PyProof.Rows PySem.Calls PySem.Spec
set_option Elab.async false
set_option maxRecDepth 100000
set_option linter.unusedVariables false
set_option autoImplicit false
set_option pp.maxSteps 600
namespace Mine
section
variable {W : Wd} {f : Fd} {ρ ρ' : List Vr} {μ : Mu} {n : Nat}
/-- a text tells a number: what int_from_string makes of it -/
structure Tells (x : Str) (k : Int) : Prop where
  len : x.length ≤ 1000
  len2 : (Txt.rstrip x).length ≤ 1000
  eq : Txt.replace (Txt.rstrip x) (S "_") (S "") = num k
  lo : 0 ≤ k
  hi : k < 10000000000
  num : (num k).length ≤ 1000
theorem Tells.log {x : Str} {k : Int} (t : Tells x k) : k.natAbs.log2 < 1920 := by
  have h := t.hi
  have h0 := t.lo
  have : k.natAbs < 2 ^ 1920 := Nat.lt_trans (by omega : k.natAbs < 10000000000) (by decide)
  by_cases hz : k.natAbs = 0
  · rw [hz]; decide
  · exact (Nat.log2_lt hz).mpr this
set_option maxHeartbeats 4000000 in
theorem c_two1 {x hd cm mr : Str} {a : Int} (V : W.Ok) (hx : x.length ≤ 1000) (hp : Txt.partition x (S ",") = (hd, cm, mr)) (ha : Tells hd a) (hc : (cm == S "") = true) (hr : Txt.replace x (S "_") (S "") = num a ++ S "" ++ S " \n") :
    Cl W 11 (.ref 166) [.str x] (.tup [.int a, D.none]) := by
  refine Cl.fn1 (nm := [S "text", S "head", S "comma", S "more", S "first", S "last", S "plain"]) (k := 6) V (fnAt rfl rfl) (cdAt rfl rfl rfl rfl) rfl rfl rfl rfl ?_ (by decide) (by simp) (by simp) (by decide +kernel) (by decide +kernel) fun X L => ?_
  · intro vs h
    rcases vs with _ | ⟨v0, _ | _⟩ <;> simp at h
    rfl
  refine Rt1.cons (Ex.one (exAssignT (d := .tup [.str hd, .str cm, .str mr]) ?_ (Asn.tuple V (.cons (Asn.name V 1 rfl (.inl rfl)) rfl (.cons (Asn.name V 2 rfl (.inl rfl)) rfl (.cons (Asn.name V 3 rfl (.inl rfl)) rfl .nil)))))) ?_
  · have e : D.tup [.str hd, .str cm, .str mr] = .tup [.str (Txt.partition x (S ",")).1, .str (Txt.partition x (S ",")).2.1, .str (Txt.partition x (S ",")).2.2] := by rw [hp]
    rw [e]
    apply Ev.meth (id := "str.partition")
    case ho => exact Ev.name 0 rfl rfl
    case ha => exact EvL.cons Ev.str EvL.nil
    case hgm => exact fun A s t pl Q h => GM.partition h
    case hc => exact Cl.partition V hx (by decide)
    all_goals rfl
  refine Rt1.cons (Ex.one (Ex.assign (d := .int a) 4 V ?_ rfl (.inl rfl))) ?_
  · apply Ev.call
    case hf => exact Ev.gname (v := .ref 57) V rfl (by kernel_rfl)
    case ha => exact EvL.cons (Ev.name 1 rfl rfl) EvL.nil
    case hk => exact Kept.ref (by kernel_rfl)
    case hc => exact (c_ifs V ha.len ha.len2 ha.eq ha.lo ha.hi ha.num).le (by first | decide | omega)
    all_goals rfl
  refine Rt1.cons (Ex.one (Ex.assign (d := D.none) 5 V (Ev.ife (b := true) (Ts.conv (Ts.cmp (Ev.name 2 rfl rfl) Ev.str F2.eqS) hc) (fun _ => Ev.noneC) (fun h => by cases h)) rfl (.inl rfl))) ?_
  refine Rt1.cons (Ex.one (Ex.assign (d := .str (num a ++ S "" ++ S " \n")) 6 V (Ev.bin (Ev.bin ?_ (Ev.ife (b := true) (Ts.conv (Ts.cmp (Ev.name 2 rfl rfl) Ev.str F2.eqS) hc) (fun _ => Ev.str) (fun h => by cases h)) (F2.addS ?_)) Ev.str (F2.addS ?_)) rfl (.inl rfl))) ?_
  · apply Ev.call
    case hf => exact Ev.bname (v := .type "str") V rfl (by kernel_rfl) (by decide +kernel)
    case ha => exact EvL.cons (Ev.name 4 rfl rfl) EvL.nil
    case hk => exact Kept.type
    case hc => exact Cl.strInt ha.log
    all_goals rfl
  · have := ha.num
    show (num a).length + 0 ≤ sizeLine
    rw [sizeLine_eq]; omega
  · have := ha.num
    rw [Str.length_append]
    show (num a).length + 0 + 2 ≤ sizeLine
    rw [sizeLine_eq]; omega
  refine Rt1.ret (Ev1.ife (b := true) (Ts1.cmp (d1 := .str (Txt.replace x (S "_") (S ""))) (Ev1.replace (Ev.name 0 rfl rfl) (by decide) hx (by decide)) (Ev.name 6 rfl rfl) ?_) (fun _ => Ev.tup V (EvL.cons (Ev.name 4 rfl rfl) (EvL.cons (Ev.name 5 rfl rfl) EvL.nil)) (by show 2 ≤ sizeLine; decide)) (fun h => by cases h))
  rw [hr]
  have e : (num a ++ S "" ++ S " \n" == num a ++ S "" ++ S " \n") = true := by simp
  rw [← e]
  exact F2.eqS
set_option maxHeartbeats 4000000 in
theorem c_two2 {x hd cm mr : Str} {a b : Int} (V : W.Ok) (hx : x.length ≤ 1000) (hp : Txt.partition x (S ",") = (hd, cm, mr)) (ha : Tells hd a) (hc : (cm == S "") = false) (hb : Tells mr b) (hr : Txt.replace x (S "_") (S "") = num a ++ (S "," ++ num b) ++ S " \n") :
    Cl W 11 (.ref 166) [.str x] (.tup [.int a, .int b]) := by
  refine Cl.fn1 (nm := [S "text", S "head", S "comma", S "more", S "first", S "last", S "plain"]) (k := 6) V (fnAt rfl rfl) (cdAt rfl rfl rfl rfl) rfl rfl rfl rfl ?_ (by decide) (by simp) (by simp) (by decide +kernel) (by decide +kernel) fun X L => ?_
  · intro vs h
    rcases vs with _ | ⟨v0, _ | _⟩ <;> simp at h
    rfl
  refine Rt1.cons (Ex.one (exAssignT (d := .tup [.str hd, .str cm, .str mr]) ?_ (Asn.tuple V (.cons (Asn.name V 1 rfl (.inl rfl)) rfl (.cons (Asn.name V 2 rfl (.inl rfl)) rfl (.cons (Asn.name V 3 rfl (.inl rfl)) rfl .nil)))))) ?_
  · have e : D.tup [.str hd, .str cm, .str mr] = .tup [.str (Txt.partition x (S ",")).1, .str (Txt.partition x (S ",")).2.1, .str (Txt.partition x (S ",")).2.2] := by rw [hp]
    rw [e]
    apply Ev.meth (id := "str.partition")
    case ho => exact Ev.name 0 rfl rfl
    case ha => exact EvL.cons Ev.str EvL.nil
    case hgm => exact fun A s t pl Q h => GM.partition h
    case hc => exact Cl.partition V hx (by decide)
    all_goals rfl
  refine Rt1.cons (Ex.one (Ex.assign (d := .int a) 4 V ?_ rfl (.inl rfl))) ?_
  · apply Ev.call
    case hf => exact Ev.gname (v := .ref 57) V rfl (by kernel_rfl)
    case ha => exact EvL.cons (Ev.name 1 rfl rfl) EvL.nil
    case hk => exact Kept.ref (by kernel_rfl)
    case hc => exact (c_ifs V ha.len ha.len2 ha.eq ha.lo ha.hi ha.num).le (by first | decide | omega)
    all_goals rfl
  refine Rt1.cons (Ex.one (Ex.assign (d := .int b) 5 V (Ev.ife (b := false) (Ts.conv (Ts.cmp (Ev.name 2 rfl rfl) Ev.str F2.eqS) hc) (fun h => by cases h) (fun _ => ?_)) rfl (.inl rfl))) ?_
  · apply Ev.call
    case hf => exact Ev.gname (v := .ref 57) V rfl (by kernel_rfl)
    case ha => exact EvL.cons (Ev.name 3 rfl rfl) EvL.nil
    case hk => exact Kept.ref (by kernel_rfl)
    case hc => exact (c_ifs V hb.len hb.len2 hb.eq hb.lo hb.hi hb.num).le (by first | decide | omega)
    all_goals rfl
  refine Rt1.cons (Ex.one (Ex.assign (d := .str (num a ++ (S "," ++ num b) ++ S " \n")) 6 V (Ev.bin (Ev.bin ?_ (Ev.ife (d := .str (S "," ++ num b)) (b := false) (Ts.conv (Ts.cmp (Ev.name 2 rfl rfl) Ev.str F2.eqS) hc) (fun h => by cases h) (fun _ => Ev.bin (d1 := .str (S ",")) (d2 := .str (num b)) Ev.str ?_ (F2.addS ?_))) (F2.addS ?_)) Ev.str (F2.addS ?_)) rfl (.inl rfl))) ?_
  · apply Ev.call
    case hf => exact Ev.bname (v := .type "str") V rfl (by kernel_rfl) (by decide +kernel)
    case ha => exact EvL.cons (Ev.name 4 rfl rfl) EvL.nil
    case hk => exact Kept.type
    case hc => exact Cl.strInt ha.log
    all_goals rfl
  · apply Ev.call
    case hf => exact Ev.bname (v := .type "str") V rfl (by kernel_rfl) (by decide +kernel)
    case ha => exact EvL.cons (Ev.name 5 rfl rfl) EvL.nil
    case hk => exact Kept.type
    case hc => exact Cl.strInt hb.log
    all_goals rfl
  · have := hb.num
    show 1 + (num b).length ≤ sizeLine
    rw [sizeLine_eq]; omega
  · have := ha.num
    have := hb.num
    rw [Str.length_append]
    show (num a).length + (1 + (num b).length) ≤ sizeLine
    rw [sizeLine_eq]; omega
  · have := ha.num
    have := hb.num
    rw [Str.length_append, Str.length_append]
    show (num a).length + (1 + (num b).length) + 2 ≤ sizeLine
    rw [sizeLine_eq]; omega
  refine Rt1.ret (Ev1.ife (b := true) (Ts1.cmp (d1 := .str (Txt.replace x (S "_") (S ""))) (Ev1.replace (Ev.name 0 rfl rfl) (by decide) hx (by decide)) (Ev.name 6 rfl rfl) ?_) (fun _ => Ev.tup V (EvL.cons (Ev.name 4 rfl rfl) (EvL.cons (Ev.name 5 rfl rfl) EvL.nil)) (by show 2 ≤ sizeLine; decide)) (fun h => by cases h))
  rw [hr]
  have e : (num a ++ (S "," ++ num b) ++ S " \n" == num a ++ (S "," ++ num b) ++ S " \n") = true := by simp
  rw [← e]
  exact F2.eqS
end
end Mine
end
section -- S37
open PySem PySem.W PyProof.Rows PySem.Calls PySem.Spec
set_option Elab.async false
set_option maxRecDepth 100000
set_option linter.unusedVariables false
set_option autoImplicit false
set_option pp.maxSteps 600
namespace Mine
section
variable {W : Wd} {f : Fd} {ρ ρ' : List Vr} {μ : Mu} {n : Nat}
set_option maxHeartbeats 4000000 in
theorem c_read1 {x hd cm mr : Str} {a w : Int} (V : W.Ok) (hx : x.length ≤ 1000) (hp : Txt.partition x (S ",") = (hd, cm, mr)) (ha : Tells hd a) (hc : (cm == S "") = true) (hr : Txt.replace x (S "_") (S "") = num a ++ S "" ++ S " \n") :
    Cl W 12 (.ref 173) [.str x, .int w] (.tup [.int a, .int a]) := by
  refine Cl.fn (nm := [S "text", S "way", S "first", S "more", S "last"]) (k := 3) V (fnAt rfl rfl) (cdAt rfl rfl rfl rfl) rfl rfl rfl rfl ?_ (by decide) (by simp) (by decide +kernel) fun X L => ?_
  · intro vs h
    rcases vs with _ | ⟨v0, _ | ⟨v1, _ | _⟩⟩ <;> simp at h
    rfl
  refine Rt.cons (exAssignT (d := .tup [.int a, D.none]) ?_ (Asn.tuple V (.cons (Asn.name V 2 rfl (.inl rfl)) rfl (.cons (Asn.name V 3 rfl (.inl rfl)) rfl .nil)))) ?_
  · apply Ev.call
    case hf => exact Ev.gname (v := .ref 166) V rfl (by kernel_rfl)
    case ha => exact EvL.cons (Ev.name 0 rfl rfl) EvL.nil
    case hk => exact Kept.ref (by kernel_rfl)
    case hc => exact c_two1 V hx hp ha hc hr
    all_goals rfl
  refine Rt.ife (b := true) (Ts.cmp (Ev.name 3 rfl rfl) Ev.noneC F2.isNone) (fun _ => ?_) (fun h => by cases h)
  exact Rt.ret (Ev.tup V (EvL.cons (Ev.name 2 rfl rfl) (EvL.cons (Ev.name 2 rfl rfl) EvL.nil)) (by show 2 ≤ sizeLine; decide))
/-- the last row that is read -/
noncomputable def lastOf (a b w : Int) : Int := if w.fmod 2 = 1 then b else a + b - 1
set_option maxHeartbeats 4000000 in
theorem c_read2 {x hd cm mr : Str} {a b w : Int} (V : W.Ok) (hx : x.length ≤ 1000) (hp : Txt.partition x (S ",") = (hd, cm, mr)) (ha : Tells hd a) (hc : (cm == S "") = false) (hb : Tells mr b) (hr : Txt.replace x (S "_") (S "") = num a ++ (S "," ++ num b) ++ S " \n") :
    Cl W 12 (.ref 173) [.str x, .int w] (if a < lastOf a b w then .tup [.int a, .int (lastOf a b w)] else .tup [.int 0, .int 0]) := by
  refine Cl.fn (nm := [S "text", S "way", S "first", S "more", S "last"]) (k := 3) V (fnAt rfl rfl) (cdAt rfl rfl rfl rfl) rfl rfl rfl rfl ?_ (by decide) (by simp) (by decide +kernel) fun X L => ?_
  · intro vs h
    rcases vs with _ | ⟨v0, _ | ⟨v1, _ | _⟩⟩ <;> simp at h
    rfl
  refine Rt.cons (exAssignT (d := .tup [.int a, .int b]) ?_ (Asn.tuple V (.cons (Asn.name V 2 rfl (.inl rfl)) rfl (.cons (Asn.name V 3 rfl (.inl rfl)) rfl .nil)))) ?_
  · apply Ev.call
    case hf => exact Ev.gname (v := .ref 166) V rfl (by kernel_rfl)
    case ha => exact EvL.cons (Ev.name 0 rfl rfl) EvL.nil
    case hk => exact Kept.ref (by kernel_rfl)
    case hc => exact c_two2 V hx hp ha hc hb hr
    all_goals rfl
  refine Rt.ife (b := false) (Ts.cmp (Ev.name 3 rfl rfl) Ev.noneC F2.isNoneI) (fun h => by cases h) (fun _ => ⟨_, Exs.nil, ?_⟩)
  refine Rt.cons (Ex.assign (d := .int (lastOf a b w)) 4 V (Ev.ife (b := w.fmod 2 == 1) (Ts.cmp (Ev.bin (Ev.name 1 rfl rfl) Ev.int (F2.modI (by decide))) Ev.int F2.eqI) (fun h => ?_) (fun h => ?_)) rfl (.inl rfl)) ?_
  · have e : lastOf a b w = b := by unfold lastOf; rw [if_pos (by simpa using h)]
    rw [e]; exact Ev.name 3 rfl rfl
  · have e : lastOf a b w = a + b - 1 := by unfold lastOf; rw [if_neg (by simpa using h)]
    rw [e]; exact Ev.bin (Ev.bin (Ev.name 2 rfl rfl) (Ev.name 3 rfl rfl) F2.addI) Ev.int F2.subI
  refine Rt.ret (Ev.ife (b := decide (lastOf a b w > a)) (Ts.cmp (Ev.name 4 rfl rfl) (Ev.name 2 rfl rfl) F2.gtI) (fun h => ?_) (fun h => ?_))
  · rw [if_pos (by simpa using h)]
    exact Ev.tup V (EvL.cons (Ev.name 2 rfl rfl) (EvL.cons (Ev.name 4 rfl rfl) EvL.nil)) (by show 2 ≤ sizeLine; decide)
  · rw [if_neg (by simpa using h)]
    exact Ev.tup V (EvL.cons Ev.int (EvL.cons Ev.int EvL.nil)) (by show 2 ≤ sizeLine; decide)
end
end Mine
end
section -- S38
open PySem PySem.W PyProof.Rows PySem.Calls PySem.Spec
set_option Elab.async false
set_option maxRecDepth 100000
set_option linter.unusedVariables false
set_option autoImplicit false
set_option pp.maxSteps 600
namespace Mine
section
variable {W : Wd} {f : Fd} {ρ ρ' : List Vr} {μ : Mu} {n : Nat}
/-- a namespace that the frame's data keep clear of is changed -/
theorem Fm.stepX {h h' : Heap} {C : Addr} {mC : Str → Option Value} (F : Fm W f ρ μ h) (hX : f.X C) (hs : Heap.SameBut C h h') (hC : h.Ns C mC) (hne : C ≠ f.env.locals) : Fm W f ρ μ h' := by
  have kc : ∀ c v, h.IsCell c v → h'.IsCell c v := fun c v x => x.sameBut hs (ns_ne_cell hC x)
  have kl : ∀ c v, h.IsList c v → h'.IsList c v := fun c v x => x.extBut hs.extBut (ns_ne_list hC x)
  have kn : ∀ m, h.Ns f.env.locals m → h'.Ns f.env.locals m := fun m x => x.sameBut hs (Ne.symm hne)
  have has : ∀ x v, Has f.env h x v → Has f.env h' x v := fun x v H => by
    rcases H with ⟨a, m, hm, e⟩ | ⟨a, c, l, hc⟩
    · exact .inl ⟨a, m, kn _ hm, e⟩
    · exact .inr ⟨a, c, l, kc _ _ hc⟩
  have mv : Mv (Yo f μ) (Yo f μ) h h' := ⟨fun _ z => .inl z, fun b o e y _ => (hs.2 b fun q => y (by rw [q]; exact .inl hX)).trans e⟩
  refine ⟨F.kind, F.glob, F.blt, F.nod, let ⟨m, hm⟩ := F.ns; ⟨m, kn _ hm⟩, F.nsZ, fun st x hx hk => ?_, F.ap, fun i x d hi hd => ?_, fun i x l hi hd => ?_, fun a y => by rw [hs.1]; exact F.lt a y, F.low, F.base⟩
  · obtain ⟨c, v, l, hc, z⟩ := F.cel st x hx hk
    exact ⟨c, v, l, kc _ _ hc, z⟩
  · obtain ⟨v, H, id⟩ := F.val i x d hi hd
    exact ⟨v, has _ _ H, id.move mv⟩
  · obtain ⟨v, L, H, b, hL⟩ := F.box i x l hi hd
    exact ⟨v, L, has _ _ H, b, hL.keep fun a o z e c d => (hs.2 a (ns_ne_seq hC e d)).trans e⟩
theorem exComp {y : Str} {py spos : Pos} {iy : Nat} {elt target iter : Expr} {ifs : List Expr} {scope : Scope} {pos : Pos} {ds : List D} {cl : List (Str × Addr)} (tp : Bool) (V : W.Ok) (tn : List Str) (caps : List (Str × Nat × D)) (p : D → Bool) (g : D → D)
    (hi : It W n f ρ tp iter ds) (ht : ∀ d ∈ ds, TgOk tp target d) (hclos : closureFor scope f.env = pure cl) (hcaps : CapsOk f ρ (fun x => (relabel scope f.env).names.lookup x) cl caps)
    (hturn : ∀ d ∈ ds, ∀ X C L, ∃ tv : List Vr, tv.length = tn.length ∧ Asn W n (fdC f scope cl (tn ++ cn caps) X C L) (List.replicate tn.length .un ++ cv caps) target d (tv ++ cv caps) ∧
      Tss W n (fdC f scope cl (tn ++ cn caps) X C L) (tv ++ cv caps) ifs (p d) ∧ (p d = true → Ev W n (fdC f scope cl (tn ++ cn caps) X C L) (tv ++ cv caps) elt (g d)))
    (hsz : ds.length ≤ sizeLine := by first | decide | size_fits)
    (hnod : (tn ++ cn caps).Nodup := by decide) (hcell : ∀ y ∈ scope.names, y.2 ≠ .cell := by decide) (hkind : scope.kind = .function := by rfl)
    (hnames : ∀ y ∈ scope.names, y.2 = .local → scope.names.lookup y.1 = some .local := by decide)
    (hs : ∀ x, foldedSetIterable iter f.env x = pure x := by intro _; rfl)  (hy : f.nm[iy]? = some y) (hyk : f.env.kindOf y = some .local)
    (hsw : swapsWith (.ListComp elt [⟨target, iter, ifs, 0⟩] scope pos) (some (.Name y py)) spos.line f.env = pure true := by rfl) : Ex W n f ρ (.Assign [.Name y py] (.ListComp elt [⟨target, iter, ifs, 0⟩] scope pos) spos) (ρ.set iy (.val (.lst ((ds.filter p).map g)))) := by
  intro A r s μ I F
  rw [exec_Assign_Name_used _ _ _ _ hsw]
  refine wpAny_bind (wpAny_standAt (wpAny_bind ?_))
  show wpAny _ A (do let _ ← comprehension (.ListComp elt [⟨target, iter, ifs, 0⟩] scope pos) scope f.env _ (newList []) false (eval iter f.env) (some (assign (.Name y py) f.env))) _ _ s
  refine wpAny_bind (wpAny_mono (wpAny_comprehension_free (use := some (assign (.Name y py) f.env)) (Q := fun _ s' => Flow.next = .next ∧ ∃ μ', Af W f μ s (ρ.set iy (.val (.lst ((ds.filter p).map g)))) μ' s') rfl hs hclos hkind hnames (wpAny_mono (hi A r s μ I F) (fun xv s1 h1 => wpAny_mono h1 (fun it s2 h2 => ?_) fun _ _ z => z) fun _ _ z => z)) (fun _ s' hq => wpAny_pure (wpAny_pure hq)) fun _ _ e => e)
  obtain ⟨Zi, k2, I2, hZi, its⟩ := h2
  refine wpAny_newObj_type (wpAny_newFunctionEnv hcell (by intro y hy; simp at hy) (fun h3 hns3 hsb3 => ?_) hkind)
  dsimp only at hns3 hsb3 ⊢
  generalize hD : s2.heap.objs.size = Dl at *
  generalize hH2 : s2.heap.push { cls := .type "list", dict := none, data := .seq ([] : List Value).toArray } = H2 at hns3 hsb3 ⊢
  have hCs : H2.objs.size = Dl + 1 := by rw [← hH2, Heap.size_push, hD]
  generalize hC : H2.objs.size = C at *
  have hDC : (Dl : Addr) ≠ C := by rw [hCs]; exact Nat.ne_of_lt (Nat.lt_succ_self _)
  have hsD : s.heap.objs.size ≤ Dl := by rw [← hD]; exact k2.size
  have hsC : s.heap.objs.size ≤ C := by rw [hCs]; exact Nat.le_succ_of_le hsD
  have sz3 : h3.objs.size = C + 1 := by rw [hsb3.1, Heap.size_push, hC]
  have old : ∀ b o, s2.heap.get? b = some o → h3.get? b = some o := fun b o e => by
    have hlt : b < Dl := hD ▸ Heap.lt_size e
    have hb : b ≠ C := Nat.ne_of_lt (by rw [hCs]; exact Nat.lt_succ_of_lt hlt)
    rw [hsb3.2 b hb, ← hH2]
    exact Heap.get?_push_of_some _ (Heap.get?_push_of_some _ e)
  have hacc : h3.IsList Dl (List.toArray []) := by
    refine ⟨{ cls := .type "list", dict := none, data := .seq ([] : List Value).toArray }, ?_, rfl, _, rfl⟩
    rw [hsb3.2 _ hDC, ← hH2, ← hD]
    exact Heap.get?_push_of_some _ (Heap.get?_push_size _ rfl)
  have kq3 : Kq No s2.heap h3 := .all old (by rw [hD, sz3, hCs]; omega)
  have I3 : Inv W h3 := I2.step V kq3 fun _ z => z.elim
  generalize htk : s2.toks + List.length (α := Str × Value) [] = tk3 at *
  have k3 : Kp No s { s2 with heap := h3, toks := tk3 } := k2.trans0 (kq3.kp fun _ _ z => z)
  let X : Addr → Prop := fun b => Yo f μ b ∨ Zi b ∨ b = Dl
  let fc := fdC f scope cl (tn ++ cn caps) X C s.heap.objs.size
  let μc : Mu := ⟨(· = C), fun _ => 0⟩
  have hXlt : ∀ b, X b → b < h3.objs.size ∧ W.B ≤ b := fun b y => by
    rw [sz3, hCs]
    rcases y with y | y | y
    · refine ⟨Nat.lt_of_lt_of_le (F.lt b y).1 (Nat.le_trans hsD ?_), (F.lt b y).2⟩; omega
    · refine ⟨Nat.lt_trans (hZi b y).2 ?_, Nat.le_trans I.size (hZi b y).1⟩; omega
    · rw [y]; exact ⟨Nat.lt_succ_of_lt (Nat.lt_succ_self _), Nat.le_trans I.size hsD⟩
  have mv3 : Mv (Yo f μ) (Yo fc μc) s.heap h3 := ⟨fun b y => by
    rcases y with (y | y | y) | y
    · exact .inl y
    · exact .inr (hZi b y).1
    · exact .inr (y ▸ hsD)
    · exact .inr (y ▸ hsC), fun b o e _ t => k3.keep b o e (fun z => z) t⟩
  have F3 : Fm W fc (List.replicate tn.length .un ++ cv caps) μc h3 := by
    refine ⟨hkind, F.glob, F.blt, hnod, ⟨_, hns3⟩, rfl, (fun q => by cases q), (fun q => by cases q), fun i x d hi' hd' => ?_, fun i x l _ hl => (getElem?_pad_box hl).elim, fun b y => ?_, fun b z => z ▸ hsC, I.size⟩
    · obtain ⟨hle, hd2⟩ := getElem?_pad hd'
      have hx2 : (cn caps)[i - tn.length]? = some x := by
        have : (tn ++ cn caps)[i]? = some x := hi'
        rwa [List.getElem?_append_right hle] at this
      simp only [cv, cn, List.getElem?_map] at hd2 hx2
      cases hq : caps[i - tn.length]? with
      | none => rw [hq] at hd2; cases hd2
      | some q =>
        rw [hq] at hd2 hx2
        cases hd2; cases hx2
        obtain ⟨e1, e2, e3, e4, e5⟩ := hcaps.mem q (List.mem_of_getElem? hq)
        obtain ⟨v, H, iv⟩ := F.val _ _ _ e1 e2
        refine ⟨v, .inr ⟨e4, ?_⟩, iv.move mv3⟩
        rcases H with ⟨a, _⟩ | ⟨a, c, l, hc⟩
        · rw [a] at e3; rcases e3 with e3 | e3 <;> cases e3
        · refine ⟨c, e5.trans l, ?_⟩
          have nt := cell_notab I hc
          obtain ⟨o, ho, hd⟩ := hc
          exact ⟨o, k3.keep _ _ ho (fun z => z) nt, hd⟩
    · rcases y with y | y
      · exact hXlt b y
      · rw [show b = C from y, sz3]; exact ⟨Nat.lt_succ_self _, Nat.le_trans I.size hsC⟩
  have its3 : ItS (Yo fc μc) Zi tp it ds h3 := its.move ⟨fun b y => by
    rcases y with (y | y | y) | y
    · exact .inl (.inl y)
    · exact .inl (.inr y)
    · exact .inr (by rw [hD]; exact Nat.le_of_eq y.symm)
    · exact .inr (by rw [hD, show b = C from y, hCs]; exact Nat.le_succ _), fun b o e _ _ => old b o e⟩ fun b o _ e => old b o e
  have hZX : ∀ b, Zi b → Yo fc μc b := fun b z => .inl (.inr (.inl z))
  have hZC : ∀ b, Zi b → b ≠ C := fun b z e => by
    have := (hZi b z).2
    rw [show b = C from e, hCs] at this; omega
  have hZD : ∀ b, Zi b → b ≠ Dl := fun b z e => by
    have := (hZi b z).2
    rw [show b = Dl from e] at this; omega
  have loop : codeAny W.M A (.compLoop (.ListComp elt [⟨target, iter, ifs, 0⟩] scope pos) 0 it (.ref Dl) fc.env) (compPost W.M A Fz (some (assign (.Name y py) f.env)) (fun _ s' => Flow.next = .next ∧ ∃ μ', Af W f μ s (ρ.set iy (.val (.lst ((ds.filter p).map g)))) μ' s') (.ref Dl) C) { s2 with heap := h3, toks := tk3 } := by
    refine compLoop_my (fun k s' => ∃ i ys, k = ds.length - i ∧ i ≤ ds.length ∧ Inv W s'.heap ∧ Fm W fc (List.replicate tn.length .un ++ cv caps) μc s'.heap ∧ ItS (Yo fc μc) Zi tp it (ds.drop i) s'.heap ∧ Kp (fun b => s.heap.objs.size ≤ b) s s' ∧
      s'.heap.IsList Dl (List.toArray ys) ∧ D.IsL (Yo fc μc) s'.heap (((ds.take i).filter p).map g) ys) ?_ ds.length ⟨0, [], by simp, by simp, I3, F3, by simpa using its3, k3.up, hacc, by simpa using D.IsL.nil⟩
    rintro k s' ⟨i, ys, rfl, hle, I', F', its', k', hl', il'⟩
    have tabD : ¬ isTab Dl := by obtain ⟨o, ho, hc, _⟩ := hl'; exact cls_notab I' ho (by rw [hc]; simp)
    cases hd : ds.drop i with
    | nil =>
      have hi' : i = ds.length := by
        have := congrArg List.length hd
        simp at this; omega
      rw [hd] at its'
      refine wpAny_mono (ItS.done V r.hd I' F'.yk hZX its') (fun rr s3 q => ?_) fun _ _ z => z.elim
      obtain ⟨rfl, k3, I3⟩ := q
      have F3 := F'.stepZ I' k3 (fun b z => .inr (.inl z)) its'.fields
      obtain ⟨m, hm⟩ := F3.ns
      have hlD : s3.heap.IsList Dl ys.toArray := hl'.at fun o e => k3.keep _ o e (fun z => hZD _ z rfl) tabD
      have ilD : D.IsL (Yo fc μc) s3.heap (((ds.take i).filter p).map g) ys := il'.move ⟨fun _ z => .inl z, fun b o e y t => k3.keep b o e (fun z => y (hZX b z)) t⟩
      have kall : Kp (fun b => s.heap.objs.size ≤ b) s s3 := k'.trans k3 fun b z => .inl (hZi b z).1
      have kno : Kp No s s3 := kall.weaken fun b z => .inr z
      have ltC : C < s3.heap.objs.size := hm.lt
      have fX := F.setX (X := fun b => f.X b ∨ b = C) I kno (fun b q => q.imp_right fun e => by rw [show b = C from e]; exact hsC) (fun b q => by
        rcases q with q | q
        · exact ⟨Nat.lt_of_lt_of_le (F.lt b (.inl q)).1 kno.size, (F.lt b (.inl q)).2⟩
        · rw [show b = C from q]; exact ⟨ltC, Nat.le_trans I.size hsC⟩)
      have id3 : (D.lst ((ds.filter p).map g)).Is (Yo (f.setX fun b => f.X b ∨ b = C) μ) s3.heap (.ref Dl) := by
        simp only [D.Is]
        refine ⟨Dl, ys, rfl, ⟨fun q => ?_, tabD⟩, hlD, ?_⟩
        · rcases q with (q | q) | q
          · exact absurd (F.lt _ (.inl q)).1 (Nat.not_lt.mpr hsD)
          · exact hDC q
          · exact absurd (F.lt _ (.inr q)).1 (Nat.not_lt.mpr hsD)
        · rw [hi', List.take_length] at ilD
          exact ilD.move ⟨fun b q => by
            rcases q with (q | q) | q
            · exact .inl (.inl (.inl (.inl q)))
            · exact .inl (.inr q)
            · exact .inl (.inl (.inl (.inr q))), fun b o e _ _ => e⟩
      show wpAny W.M A (assign (.Name y py) f.env (.ref Dl)) _ _ _
      refine wpAny_assign_Name (sto0 (f := f.setX fun b => f.X b ∨ b = C) V I3 fX (x := y) (i := iy) hy (.inl hyk) id3 fun s4 k4 I4 F4 => ?_)
      have nzC : ¬ μ.Z C := fun z => absurd (F.lt C (.inr z)).1 (Nat.not_lt.mpr hsC)
      have tabC := ns_notab I3 hm
      have hm4 := hm.at' fun o e => k4.keep _ o e (fun z => nzC z.1) tabC
      refine ⟨m, hm4, fun h' hs' => ?_⟩
      obtain ⟨oC, hoC, hcC⟩ := ns_noCode hm4
      have kqC : Kq (fun b => b = C) s4.heap h' := Kq.one hs' hoC hcC
      have hBC : ∀ b, b = C → W.B ≤ b := fun b e => e ▸ Nat.le_trans I.size hsC
      have k5 : Kp (fun b => b = C) s4 { s4 with heap := h' } := kqC.kp (tk := s4.toks) (V.high hBC)
      have F5 : Fm W (f.setX fun b => f.X b ∨ b = C) (ρ.set iy (.val (.lst ((ds.filter p).map g)))) μ h' := F4.stepX (.inr rfl) hs' hm4 (fun q => nzC (q ▸ F.nsZ))
      refine ⟨rfl, μ, ⟨((kno.up).trans k4 fun b z => .inl z.1).trans k5 fun b e => .inr (e ▸ hsC), I4.step V kqC hBC, ?_, fun b z => .inl z⟩⟩
      exact F5.dropX (X := f.X) fun b q => .inl q
    | cons d rest =>
      have hil : i < ds.length := by
        have := congrArg List.length hd
        simp at this; omega
      have hdi : ds[i]? = some d := by
        have := congrArg (·[0]?) hd
        simpa using this
      have hrest : ds.drop (i + 1) = rest := by rw [← List.tail_drop, hd]; rfl
      have htake : ds.take (i + 1) = ds.take i ++ [d] := by rw [List.take_add_one, hdi]; rfl
      rw [hd] at its'
      have hmem := List.mem_of_getElem? hdi
      obtain ⟨tv, htv, ha, htst, hel⟩ := hturn d hmem X C s.heap.objs.size
      refine wpAny_mono (ItS.next V I' F'.yk hZX its' (ht d hmem)) (fun rr s3 q => ?_) fun _ _ z => z.elim
      obtain ⟨v, rfl, q⟩ := q
      refine wpAny_mono q (fun _ s4 q => ?_) fun _ _ z => z.elim
      obtain ⟨k4, I4, iv, it4⟩ := q
      have F4 := F'.stepZ I' k4 (fun b z => .inr (.inl z)) its'.fields
      have l4 : s4.heap.IsList Dl ys.toArray := hl'.at fun o e => k4.keep _ o e (fun z => hZD _ z rfl) tabD
      have il4 : D.IsL (Yo fc μc) s4.heap (((ds.take i).filter p).map g) ys := il'.move ⟨fun _ z => .inl z, fun b o e y t => k4.keep b o e (fun z => y (hZX b z)) t⟩
      refine wpAny_mono (ha A r s4 μc v I4 F4 iv) (fun _ s5 q => ?_) fun _ _ z => z.elim
      obtain ⟨k5, I5, F5⟩ := q
      have m5 : Mv (Yo fc μc) (Yo fc μc) s4.heap s5.heap := ⟨fun _ z => .inl z, fun b o e y t => k5.keep b o e (fun z => y (.inr z.1)) t⟩
      have it5 : ItS (Yo fc μc) Zi tp it rest s5.heap := it4.move m5 fun b o z e => k5.keep b o e (fun q => hZC b z q.1) (F5.notab V (hZX b z))
      have l5 : s5.heap.IsList Dl ys.toArray := l4.at fun o e => k5.keep _ o e (fun q => hDC q.1) tabD
      have il5 := il4.move m5
      have k05 : Kp (fun b => s.heap.objs.size ≤ b) s s5 := (k'.trans k4 fun b z => .inl (hZi b z).1).trans k5 fun b z => .inl (by rw [show b = C from z.1]; exact hsC)
      refine wpAny_mono (htst A r s5 μc I5 F5) (fun ok s6 q => ?_) fun _ _ z => z.elim
      obtain ⟨rfl, k6, I6⟩ := q
      have F6 := F5.step I5 k6
      have m6 : Mv (Yo fc μc) (Yo fc μc) s5.heap s6.heap := Mv.of_kp k6
      have it6 : ItS (Yo fc μc) Zi tp it rest s6.heap := it5.move m6 fun b o z e => k6.keep b o e (fun q => q) (F5.notab V (hZX b z))
      have l6 : s6.heap.IsList Dl ys.toArray := l5.at fun o e => k6.keep _ o e (fun q => q) tabD
      have il6 := il5.move m6
      have k06 : Kp (fun b => s.heap.objs.size ≤ b) s s6 := k05.trans k6 fun b z => z.elim
      have forget : ∀ {s7 : Shared}, Fm W fc (tv ++ cv caps) μc s7.heap → Fm W fc (List.replicate tn.length .un ++ cv caps) μc s7.heap := fun F7 => by
        refine F7.forget (fun j d' hj => ?_) fun j l hj => (getElem?_pad_box hj).elim
        obtain ⟨hle, hj2⟩ := getElem?_pad hj
        rw [List.getElem?_append_right (by rw [htv]; exact hle), htv]
        exact hj2
      cases hp : p d with
      | false =>
        simp only [Bool.false_eq_true, if_false]
        refine ⟨ds.length - (i + 1), by omega, i + 1, ys, rfl, hil, I6, forget F6, by rw [hrest]; exact it6, k06, l6, ?_⟩
        rw [htake, List.filter_append]
        simpa [hp] using il6
      | true =>
        simp only [if_true]
        refine (hel hp).use r I6 F6 fun x s7 k7 I7 F7 i7 => ?_
        have m7 : Mv (Yo fc μc) (Yo fc μc) s6.heap s7.heap := Mv.of_kp k7
        have it7 : ItS (Yo fc μc) Zi tp it rest s7.heap := it6.move m7 fun b o z e => k7.keep b o e (fun q => q) (F6.notab V (hZX b z))
        have l7 : s7.heap.IsList Dl ys.toArray := l6.at fun o e => k7.keep _ o e (fun q => q) tabD
        have il7 := il6.move m7
        have hys : ys.length ≤ sizeLine := by
          have e1 := il7.length
          rw [e1, List.length_map]
          exact Nat.le_trans (List.length_filter_le _ _) (Nat.le_trans (by rw [List.length_take]; exact Nat.min_le_right _ _) hsz)
        refine wpAny_list_append (hsz := by simpa using hys) l7 fun h8 l8 hs8 => ?_
        obtain ⟨oD, hoD, hcD⟩ := list_noCode l7
        have kq8 : Kq (fun b => b = Dl) s7.heap h8 := Kq.one hs8 hoD hcD
        have hBD : ∀ b, b = Dl → W.B ≤ b := fun b e => e ▸ Nat.le_trans I.size hsD
        have k8 : Kp (fun b => b = Dl) s7 { s7 with heap := h8 } := kq8.kp (tk := s7.toks) (V.high hBD)
        have m8 : Mv (Yo fc μc) (Yo fc μc) s7.heap h8 := ⟨fun _ z => .inl z, fun b o e y _ => kq8.keep b o e fun q => y (.inl (.inr (.inr q)))⟩
        refine ⟨ds.length - (i + 1), by omega, i + 1, ys ++ [x], rfl, hil, I7.step V kq8 hBD, ?_, ?_, (k06.trans k7 fun b z => z.elim).trans k8 fun b e => .inl (e ▸ hsD), by simpa using l8, ?_⟩
        · refine forget ?_
          refine F7.move (X := fc.X) (s' := { s7 with heap := h8 }) m8 (fun a o e nf ns t => (hs8.2 a fun q => ?_).trans e) I7 (fun b y => by rw [hs8.1]; exact F7.lt b (.inl y)) (Nat.le_of_eq hs8.1.symm)
          subst q
          rw [hoD] at e; cases e
          obtain ⟨o', ho', _, k, hd'⟩ := l7
          rw [hoD] at ho'; cases ho'
          exact hDC (ns _ _ hd')
        · rw [hrest]; exact it7.move m8 fun b o z e => (hs8.2 b (hZD b z)).trans e
        · rw [htake, List.filter_append, List.map_append]
          refine D.IsL.append (il7.move m8) ?_
          simpa [hp] using D.IsL.cons (i7.move m8) D.IsL.nil
  exact codeAny_compStart_list loop (ItS.self (s := { s2 with heap := h3, toks := tk3 }) its3 loop |> fun h => wpAny_mono h (fun _ _ q => q) fun _ _ z => z.elim)
end
end Mine
end
section -- S39
open PySem PySem.W PyProof.Rows PySem.Calls PySem.Spec
set_option Elab.async false
set_option maxRecDepth 100000
set_option linter.unusedVariables false
set_option autoImplicit false
set_option pp.maxSteps 600
namespace Mine
section
variable {W : Wd} {f : Fd} {ρ ρ' : List Vr} {μ : Mu} {n : Nat}
theorem mem_nums {P : D → Prop} : ∀ {ds : List D} {k : Nat} {d : D}, (∀ e ∈ ds, P e) → d ∈ nums k ds → ∃ (i : Nat) (e : D), d = .tup [.int i, e] ∧ e ∈ ds
  | [], k, d, h, hm => by simp [nums] at hm
  | e :: r, k, d, h, hm => by
    rw [nums] at hm
    rcases List.mem_cons.mp hm with rfl | hm
    · exact ⟨k, e, rfl, .head _⟩
    · obtain ⟨i, e', q, m⟩ := mem_nums (P := P) (fun e he => h e (.tail _ he)) hm
      exact ⟨i, e', q, .tail _ m⟩
/-- the text e stands not among the first i of ds -/
noncomputable def newAt (ds : List D) : D → Bool
  | .tup [.int i, e] => !(dPs (lsl ds none (some i))).any fun y => PyData.eqv y (dP e)
  | _ => false
noncomputable def sndD : D → D
  | .tup [_, e] => e
  | d => d
noncomputable def unlikeL (ds : List D) : List D := ((nums 0 ds).filter (newAt ds)).map sndD
noncomputable def shortD (r : Str) : D → Bool
  | .str x => decide ((x.length : Int) < r.length)
  | _ => false
noncomputable def shorterN (rows : List Str) (row : Str) : Nat := (((unlikeL (rows.map D.str)).filter (shortD row)).map id).length
theorem mem_unlike {rows : List Str} {d : D} (h : d ∈ unlikeL (rows.map D.str)) : ∃ x, d = .str x ∧ x ∈ rows := by
  obtain ⟨e, he, rfl⟩ := List.mem_map.mp h
  obtain ⟨i, e', rfl, hm⟩ := mem_nums (P := fun _ => True) (fun _ _ => trivial) (List.mem_filter.mp he).1
  obtain ⟨x, hx, rfl⟩ := List.mem_map.mp hm
  exact ⟨x, rfl, hx⟩
theorem nums_length : ∀ {ds : List D} {k : Nat}, (nums k ds).length = ds.length
  | [], _ => rfl
  | d :: r, k => by rw [nums, List.length_cons, nums_length, List.length_cons]
theorem okDs_str : ∀ {l : List Str}, (∀ x ∈ l, PyData.strOk x = true) → okDs 7 (l.map D.str) = true
  | [], _ => by simp [okDs]
  | x :: r, h => by
    rw [List.map_cons, okDs, okDs_str fun y hy => h y (.tail _ hy), Bool.and_true, okD]
    exact h x (.head _)
theorem lsl_map {α β : Type} {g : α → β} {l : List α} {lo hi : Option Int} : lsl (l.map g) lo hi = (lsl l lo hi).map g := by
  unfold lsl
  simp [List.map_drop, List.map_take]
set_option maxHeartbeats 4000000 in
theorem c_shorter {rows : List Str} {row : Str} (V : W.Ok) (hn : rows.length ≤ 100) (hl : ∀ x ∈ rows, x.length ≤ 1000) (hr : row.length ≤ 1000) (hok : ∀ x ∈ rows, PyData.strOk x = true) : Cl W 6 (.ref 195) [.lst (rows.map D.str), .str row] (.int (shorterN rows row)) := by
  refine Cl.fn (nm := [S "rows", S "row", S "unlike"]) (k := 1) V (fnAt rfl rfl) (cdAt rfl rfl rfl rfl) rfl rfl rfl rfl ?_ (by decide) (by simp) (by decide +kernel) fun X L => ?_
  · intro vs h
    rcases vs with _ | ⟨v0, _ | ⟨v1, _ | _⟩⟩ <;> simp at h
    rfl
  have hU : (unlikeL (rows.map D.str)).length ≤ 100 := by
    unfold unlikeL
    rw [List.length_map]
    refine Nat.le_trans (List.length_filter_le _ _) ?_
    rw [nums_length, List.length_map]; exact hn
  refine Rt.cons (ρ' := [.val (.lst (rows.map D.str)), .val (.str row), .val (.lst (unlikeL (rows.map D.str)))]) ?_ ?_
  · refine exComp (iy := 2) (caps := [(S "rows", 0, .lst (rows.map D.str))]) (tn := [S "place", S "one"]) true V (p := newAt (rows.map D.str)) (g := sndD) (It.enum V (Ev.bname (v := .type "enumerate") V rfl (by kernel_rfl) (by decide +kernel)) (Ev.name 0 rfl rfl)) ?_ rfl ⟨⟨rfl, rfl, .inl rfl, .inl rfl, rfl⟩, trivial⟩ ?_ ?_ (hnod := (show ([S "place", S "one", S "rows"] : List Str).Nodup by decide)) (hy := rfl) (hyk := rfl)
    · intro d hd
      obtain ⟨i, e', rfl, hm⟩ := mem_nums (P := fun _ => True) (fun _ _ => trivial) hd
      exact .inr ⟨rfl, _, _, _, _, rfl, rfl⟩
    · intro d hd X C L
      obtain ⟨i, e', rfl, hm⟩ := mem_nums (P := fun _ => True) (fun _ _ => trivial) hd
      obtain ⟨x, hx, rfl⟩ := List.mem_map.mp hm
      refine ⟨[.val (.int i), .val (.str x)], rfl, Asn.tuple V (.cons (Asn.name V 0 rfl (.inl rfl)) rfl (.cons (Asn.name V 1 rfl (.inl rfl)) rfl .nil)), ?_, fun _ => Ev.name 1 rfl rfl⟩
      refine Tss.one (Ts.cmp (Ev.name 1 rfl rfl) (Ev.sliceL V (Ev.name 2 rfl rfl) EvP.none (EvP.some (Ev.name 0 rfl rfl)) (by rw [List.length_map]; exact Nat.le_trans hn (by decide))) (F2.ninL (by rw [okD]; exact hok x hx) ?_))
      rw [lsl_map]
      exact okDs_str fun z hz => hok z (List.mem_of_mem_drop (List.mem_of_mem_take hz))
    · rw [nums_length, List.length_map]; exact Nat.le_trans hn (by decide)
  have hm : ∀ d ∈ unlikeL (rows.map D.str), ∃ x, d = .str x ∧ x ∈ rows := fun d => mem_unlike
  refine Rt.ret ?_
  apply Ev.call
  case hf => exact Ev.bname (v := .builtin "len") V rfl (by kernel_rfl) (by decide +kernel)
  case ha =>
    refine EvL.cons (d := .lst (((unlikeL (rows.map D.str)).filter (shortD row)).map id)) (Ev.comp (caps := [(S "row", 1, .str row)]) (tn := [S "one"]) false V (p := shortD row) (g := id) (It.lst V (Ev.name 2 rfl rfl)) ?_ rfl ⟨⟨rfl, rfl, .inl rfl, .inl rfl, rfl⟩, trivial⟩ ?_ (Nat.le_trans hU (by decide)) (hnod := (show ([S "one", S "row"] : List Str).Nodup by decide))) EvL.nil
    · intro d hd
      exact .inl ⟨rfl, _, _, rfl⟩
    · intro d hd X C L
      obtain ⟨x, rfl, hx⟩ := hm d hd
      refine ⟨[.val (.str x)], rfl, Asn.name V 0 rfl (.inl rfl), Tss.one (Ts.cmp (d1 := .int x.length) (d2 := .int row.length) ?_ ?_ F2.ltI), fun _ => Ev.name 0 rfl rfl⟩
      · apply Ev.call; (case hf => exact Ev.bname (v := .builtin "len") V rfl (by kernel_rfl) (by decide +kernel)); (case ha => exact EvL.cons (Ev.name 0 rfl rfl) EvL.nil); (case hk => exact Kept.builtin); (case hc => exact Cl.lenS (hl x hx)); all_goals rfl
      · apply Ev.call; (case hf => exact Ev.bname (v := .builtin "len") V rfl (by kernel_rfl) (by decide +kernel)); (case ha => exact EvL.cons (Ev.name 1 rfl rfl) EvL.nil); (case hk => exact Kept.builtin); (case hc => exact Cl.lenS hr); all_goals rfl
  case hk => exact Kept.builtin
  case hc =>
    refine Cl.lenL ?_
    rw [List.length_map]
    exact Nat.le_trans (List.length_filter_le _ _) (Nat.le_trans hU (by decide))
  all_goals rfl
end
end Mine
end
section -- S40
open PySem PySem.W PyProof.Rows PySem.Calls PySem.Spec
set_option Elab.async false
set_option maxRecDepth 100000
set_option linter.unusedVariables false
set_option autoImplicit false
set_option pp.maxSteps 600
namespace Mine
section
variable {W : Wd} {f : Fd} {ρ ρ' : List Vr} {μ : Mu} {n : Nat}
/-- a thing's tag -/
inductive Tag where
  | none
  | str (x : Str)
  | qn (x : Str)
noncomputable def Tag.d : Tag → D
  | .none => D.none
  | .str x => .str x
  | .qn x => .qn x
noncomputable def Tag.told : Tag → D
  | .none => .tup [D.none, .int 0]
  | .str x => .tup [.str x, .int 0]
  | .qn x => .tup [.str x, .int 1]
noncomputable abbrev thing (t : Tag) : D := .thing t.d
noncomputable def toldD : D → D
  | .thing (.qn x) => .tup [.str x, .int 1]
  | .thing d => .tup [d, .int 0]
  | d => d
theorem toldD_thing (t : Tag) : toldD (thing t) = t.told := by cases t <;> rfl
set_option maxHeartbeats 4000000 in
theorem c_told {ts : List Tag} (V : W.Ok) (hn : ts.length ≤ 1000) : Cl W 9 (.ref 190) [.lst (ts.map thing)] (.lst (ts.map Tag.told)) := by
  refine Cl.fn (nm := [S "things"]) (k := 0) V (fnAt rfl rfl) (cdAt rfl rfl rfl rfl) rfl rfl rfl rfl ?_ (by decide) (by simp) (by decide +kernel) fun X L => ?_
  · intro vs h
    rcases vs with _ | ⟨v0, _ | _⟩ <;> simp at h
    rfl
  refine Rt.ret ?_
  have e : D.lst (ts.map Tag.told) = .lst (((ts.map thing).filter fun _ => true).map toldD) := by
    rw [List.filter_eq_self.mpr (fun _ _ => rfl), List.map_map]
    congr 1
    exact List.map_congr_left fun t _ => (toldD_thing t).symm
  rw [e]
  refine Ev.comp (caps := []) (tn := [S "thing"]) false V (p := fun _ => true) (g := toldD) (It.lst V (Ev.name 0 rfl rfl)) ?_ rfl trivial ?_ (by rw [List.length_map]; exact Nat.le_trans hn (by decide))
  · intro d hd
    exact .inl ⟨rfl, _, _, rfl⟩
  · intro d hd X C L
    obtain ⟨t, ht, rfl⟩ := List.mem_map.mp hd
    refine ⟨[.val (thing t)], rfl, Asn.name V 0 rfl (.inl rfl), Tss.nil, fun _ => ?_⟩
    rw [toldD_thing]
    cases t with
    | none =>
      refine Ev.ife (b := false) (Ts.ev (d := D.bool false) ?_ Fb.bool) (fun h => by cases h) (fun _ => Ev.tup V (EvL.cons (Ev.tag (Ev.name 0 rfl rfl) Handed.none) (EvL.cons Ev.int EvL.nil)) (by show 2 ≤ sizeLine; decide))
      · apply Ev.call
        case hf => exact Ev.bname (v := .builtin "isinstance") V rfl (by kernel_rfl) (by decide +kernel)
        case ha => exact EvL.cons (Ev.tag (Ev.name 0 rfl rfl) Handed.none) (EvL.cons (Ev.gname (v := .ref 145) V rfl (by kernel_rfl)) EvL.nil)
        case hk => exact Kept.builtin
        case hc => exact Cl.isQnN
        all_goals rfl
    | str x =>
      refine Ev.ife (b := false) (Ts.ev (d := D.bool false) ?_ Fb.bool) (fun h => by cases h) (fun _ => Ev.tup V (EvL.cons (Ev.tag (Ev.name 0 rfl rfl) Handed.str) (EvL.cons Ev.int EvL.nil)) (by show 2 ≤ sizeLine; decide))
      · apply Ev.call
        case hf => exact Ev.bname (v := .builtin "isinstance") V rfl (by kernel_rfl) (by decide +kernel)
        case ha => exact EvL.cons (Ev.tag (Ev.name 0 rfl rfl) Handed.str) (EvL.cons (Ev.gname (v := .ref 145) V rfl (by kernel_rfl)) EvL.nil)
        case hk => exact Kept.builtin
        case hc => exact Cl.isQnS
        all_goals rfl
    | qn x =>
      refine Ev.ife (b := true) (Ts.ev (d := D.bool true) ?_ Fb.bool) (fun _ => Ev.tup V (EvL.cons (Ev.text (Ev.tag (Ev.name 0 rfl rfl) Handed.qn)) (EvL.cons Ev.int EvL.nil)) (by show 2 ≤ sizeLine; decide)) (fun h => by cases h)
      · apply Ev.call
        case hf => exact Ev.bname (v := .builtin "isinstance") V rfl (by kernel_rfl) (by decide +kernel)
        case ha => exact EvL.cons (Ev.tag (Ev.name 0 rfl rfl) Handed.qn) (EvL.cons (Ev.gname (v := .ref 145) V rfl (by kernel_rfl)) EvL.nil)
        case hk => exact Kept.builtin
        case hc => exact Cl.isQn
        all_goals rfl
end
end Mine
end
section -- S41
open PySem PySem.W PyProof.Rows PySem.Calls PySem.Spec
set_option Elab.async false
set_option maxRecDepth 100000
set_option linter.unusedVariables false
set_option autoImplicit false
set_option pp.maxSteps 600
namespace Mine
section
variable {W : Wd} {f : Fd} {ρ ρ' : List Vr} {μ : Mu} {n : Nat}
noncomputable def wild (x : Str) : Bool := (cutS x none (some 3) == S "{*}") || (cutS x (some (-2)) none == S "}*")
theorem c_wild {x : Str} (V : W.Ok) (hx : x.length ≤ 1000) : Cl W 3 (.ref 21) [.str x] (D.bool (wild x)) := by
  refine Cl.fn (nm := [S "tag"]) (k := 0) V (fnAt rfl rfl) (cdAt rfl rfl rfl rfl) rfl rfl rfl rfl ?_ (by decide) (by simp) (by decide +kernel) fun X L => ?_
  · intro vs h
    rcases vs with _ | ⟨v0, _ | _⟩ <;> simp at h
    rfl
  refine Rt.ret (Ev.orB (Ev.cmp (Ev.sliceS V (Ev.name 0 rfl rfl) EvP.none (EvP.some Ev.int) hx) Ev.str F2.eqS) (fun _ => Ev.cmp (Ev.sliceS V (Ev.name 0 rfl rfl) (EvP.some (Ev.neg Ev.int)) EvP.none hx) Ev.str F2.eqS))
end
end Mine
end
section -- S42
open PySem PySem.W PyProof.Rows PySem.Calls PySem.Spec
set_option Elab.async false
set_option maxRecDepth 100000
set_option linter.unusedVariables false
set_option autoImplicit false
set_option pp.maxSteps 600
namespace Mine
section
variable {W : Wd} {f : Fd} {ρ ρ' : List Vr} {μ : Mu} {n : Nat}
/-- as Cl.fn, and what is known of the room of the frame's own -/
theorem Cl.fnX {a : Addr} {fd : FuncData} {body : List Stmt} {nm : List Str} {ds : List D} {d : D} {k : Nat} (V : W.Ok)
    (ho : ∀ h, Inv W h → ∃ o, h.get? a = some o ∧ o.data = .func fd) (hcd : ∀ h, Inv W h → h.CodeRec fd.code fd.qualname)
    (hbody : fd.body = .stmts body) (hclo : fd.closure = []) (hgl : fd.globals = mainGlobals) (hbl : fd.builtins = builtinsNs)
    (hbind : ∀ vs : List Value, vs.length = ds.length → bindArgs fd ⟨vs, []⟩ = pure (nm.zip vs))
    (hnod : nm.Nodup) (hlen : ds.length ≤ nm.length) (hkinds : kindsOk fd.scope nm = true)
    (hrt : ∀ X L, (∀ b, X b → b < L) → Rt W n (fdOf fd a nm X L) (vals ds k) body d)
    (hco : fd.scope.isCoroutine = false := by rfl) (hgen : fd.scope.isGenerator = false := by rfl) (hkf : fd.scope.kind = .function := by rfl) : Cl W (n + 1) (.ref a) ds d := by
  intro A r s Y vs I y il
  refine wpAny_call (fnGo (k := k) V r.depth I y il (ho _ I) (hcd _ I) hbody hclo hgl hbl (fun _ _ _ _ q => by rw [hbind vs il.length]; exact wpAny_pure q) hnod hlen hkinds (fun s1 μ0 k1 I1 hz F0 => ?_) hco hgen hkf)
  refine wpAny_mono (hrt Y s.heap.objs.size (fun b z => (y b z).1) _ (r.deeper _) _ μ0 I1 F0) (fun fl s' p => ?_) fun _ _ z => z.elim
  obtain ⟨v, rfl, kp, I', i'⟩ := p
  exact ⟨k1.trans kp (fun b z => .inr (hz b z)), I', i'⟩

/-- a list of plain data -/
noncomputable def FlatL (pl : Bool) (ds : List D) : Bx := fun v L => ∃ a o vs c, v = .ref a ∧ L = [(a, o)] ∧ o.cls = .type "list" ∧ (pl = true → o.dict = none) ∧ o.data = .seq (List.toArray vs) c ∧ ∀ Y h, D.IsL Y h ds vs
theorem set_val_self {ρ : List Vr} {i : Nat} {a b : Vr} (e : (ρ.set i a)[i]? = some b) : b = a := by
  rw [List.getElem?_set] at e
  split at e
  · split at e
    · cases e; rfl
    · cases e
  · exact absurd rfl ‹_›
/-- what was a box is data from now on -/
theorem Fm.freezeB {h : Heap} {i : Nat} {B : Bx} {d : D} (F : Fm W f ρ μ h) (hb : ρ[i]? = some (Vr.box B)) (hi : ∃ x, f.nm[i]? = some x) (hX : ∀ b, f.X b → b < f.lo) (I : Inv W h)
    (hB : ∀ Y v L, B v L → (∀ q ∈ L, Av Y q.1 ∧ h.get? q.1 = some q.2) → d.Is Y h v) : Fm W f (ρ.set i (.val d)) ⟨fun b => μ.Z b ∧ ¬ (μ.β b = i ∧ ∃ o vs c, h.get? b = some o ∧ o.data = .seq vs c), μ.β⟩ h := by
  obtain ⟨x, hx⟩ := hi
  obtain ⟨v, L, H, b, hL⟩ := F.box i x B hx hb
  have sub : ∀ b, Yo f ⟨fun b => μ.Z b ∧ ¬ (μ.β b = i ∧ ∃ o vs c, h.get? b = some o ∧ o.data = .seq vs c), μ.β⟩ b → Yo f μ b := fun b y => y.imp_right fun q => q.1
  have mv : Mv (Yo f μ) (Yo f ⟨fun b => μ.Z b ∧ ¬ (μ.β b = i ∧ ∃ o vs c, h.get? b = some o ∧ o.data = .seq vs c), μ.β⟩) h h := ⟨fun b y => .inl (sub b y), fun _ _ e _ _ => e⟩
  obtain ⟨m, hm⟩ := F.ns
  refine ⟨F.kind, F.glob, F.blt, F.nod, F.ns, ⟨F.nsZ, fun ⟨_, o, vs, c, e, d⟩ => ns_ne_seq hm e ⟨vs, c, d⟩ rfl⟩, fun st y hy hk => ?_, F.ap, fun j y d hj hd => ?_, fun j y l hj hd => ?_, fun b y => F.lt b (sub b y), fun b y => F.low b y.1, F.base⟩
  · obtain ⟨c, v, l, hc, zc⟩ := F.cel st y hy hk
    exact ⟨c, v, l, hc, zc, fun ⟨_, o, vs, k, e, d⟩ => cell_ne_seq hc e ⟨vs, k, d⟩ rfl⟩
  · by_cases hji : j = i
    · subst hji
      rw [hx] at hj; cases hj
      cases set_val_self hd
      refine ⟨_, H, hB _ _ _ b fun q hq => ?_⟩
      obtain ⟨z, e, g, c, vs, k, hd'⟩ := hL q hq
      refine ⟨⟨fun y => ?_, cls_notab I g (by rw [c]; simp)⟩, g⟩
      rcases y with y | y
      · exact absurd (hX _ y) (Nat.not_lt.mpr (F.low _ z))
      · exact y.2 ⟨e, q.2, vs, k, g, hd'⟩
    · obtain ⟨v, H', id⟩ := F.val j y d hj (set_other hji hd)
      exact ⟨v, H', id.move mv⟩
  · have hji : j ≠ i := fun q => by subst q; cases set_val_self hd
    obtain ⟨ws, L', H', b', hL'⟩ := F.box j y l hj (set_other hji hd)
    exact ⟨ws, L', H', b', fun q hq => let ⟨z, e, r⟩ := hL' q hq; ⟨⟨z, fun q' => hji (e.symm.trans q'.1)⟩, e, r⟩⟩
theorem FlatL.is {pl : Bool} {ds : List D} {h : Heap} : ∀ Y v L, FlatL pl ds v L → (∀ q ∈ L, Av Y q.1 ∧ h.get? q.1 = some q.2) → (D.lst ds).Is Y h v := by
  intro Y v L ⟨a, o, vs, c, h1, h2, h3, _, h5, h6⟩ hL
  subst h2
  obtain ⟨av, g⟩ := hL _ (List.mem_singleton.mpr rfl)
  simp only [D.Is]
  exact ⟨a, vs, h1, av, ⟨o, g, h3, c, h5⟩, h6 _ _⟩
/-- a box is frozen ahead of the rest -/
theorem Rt.freeze {i : Nat} {x : Str} {pl : Bool} {ds : List D} {sts : List Stmt} {d : D} (hb : ρ[i]? = some (Vr.box (FlatL pl ds))) (hx : f.nm[i]? = some x) (hX : ∀ b, f.X b → b < f.lo) (h : Rt W n f (ρ.set i (.val (.lst ds))) sts d) : Rt W n f ρ sts d := by
  intro A r s μ I F
  refine wpAny_mono (h A r s _ I (F.freezeB hb ⟨x, hx⟩ hX I FlatL.is)) (fun fl s' p => ?_) fun _ _ z => z
  obtain ⟨v, rfl, k, r⟩ := p
  exact ⟨v, rfl, k.weaken fun b z => .inl z.1, r⟩
theorem Exs.freeze {i : Nat} {x : Str} {pl : Bool} {ds : List D} {sts : List Stmt} {ρ' : List Vr} (hb : ρ[i]? = some (Vr.box (FlatL pl ds))) (hx : f.nm[i]? = some x) (hX : ∀ b, f.X b → b < f.lo) (h : Exs W n f (ρ.set i (.val (.lst ds))) sts ρ') : Exs W n f ρ sts ρ' := by
  intro A r s μ I F
  refine wpAny_mono (h A r s _ I (F.freezeB hb ⟨x, hx⟩ hX I FlatL.is)) (fun fl s' p => ?_) fun _ _ z => z
  obtain ⟨e, μ', k, I', F', g⟩ := p
  exact ⟨e, μ', k.weaken fun b z => .inl z.1, I', F', fun b z => (g b z).imp_left fun q => q.1⟩

/-- the addresses of the objects -/
noncomputable abbrev inL (L : List (Addr × Obj)) (b : Addr) : Prop := L.any (fun q => q.1 == b) = true
theorem inL_mem {L : List (Addr × Obj)} {q : Addr × Obj} (h : q ∈ L) : inL L q.1 := List.any_eq_true.mpr ⟨q, h, by simp⟩
theorem inL_of {L : List (Addr × Obj)} {b : Addr} (h : inL L b) : ∃ o, (b, o) ∈ L := by
  obtain ⟨q, hq, e⟩ := List.any_eq_true.mp h
  have : q.1 = b := by simpa using e
  exact ⟨q.2, this ▸ hq⟩
/-- from hidden fresh lists behind a name to a box -/
theorem Fm.toBox {h : Heap} {i : Nat} {v : Value} {B : Bx} {L : List (Addr × Obj)} (F : Fm W (f.setX fun b => f.X b ∨ inL L b) (ρ.set i (.val (.val v))) μ h) (hi : i < ρ.length) (hx : ∃ x, f.nm[i]? = some x)
    (hB : B v L) (hL : ∀ q ∈ L, f.lo ≤ q.1 ∧ ¬ μ.Z q.1 ∧ h.get? q.1 = some q.2 ∧ q.2.cls = .type "list" ∧ ∃ vs c, q.2.data = .seq vs c) :
    Fm W f (ρ.set i (.box B)) ⟨fun b => μ.Z b ∨ inL L b, fun b => if inL L b then i else μ.β b⟩ h := by
  obtain ⟨x, hx⟩ := hx
  have sub : ∀ b, Yo f ⟨fun b => μ.Z b ∨ inL L b, fun b => if inL L b then i else μ.β b⟩ b → Yo (f.setX fun b => f.X b ∨ inL L b) μ b := fun b y => by
    rcases y with y | y | y
    · exact .inl (.inl y)
    · exact .inr y
    · exact .inl (.inr y)
  have mv : Mv (Yo (f.setX fun b => f.X b ∨ inL L b) μ) (Yo f ⟨fun b => μ.Z b ∨ inL L b, fun b => if inL L b then i else μ.β b⟩) h h := ⟨fun b y => .inl (sub b y), fun _ _ e _ _ => e⟩
  have other : ∀ {j : Nat} {r : Vr}, j ≠ i → (ρ.set i (.box B))[j]? = some r → (ρ.set i (.val (.val v)))[j]? = some r := fun {j r} hji e => by
    rw [List.getElem?_set_ne (Ne.symm hji)] at e ⊢; exact e
  have self : (ρ.set i (.val (.val v)))[i]? = some (.val (.val v)) := by rw [List.getElem?_set_self hi]
  refine ⟨F.kind, F.glob, F.blt, F.nod, F.ns, .inl F.nsZ, fun st y hy hk => ?_, F.ap, fun j y d hj hd => ?_, fun j y l hj hd => ?_, fun b y => F.lt b (sub b y), fun b y => y.elim (F.low b) fun e => ?_, F.base⟩
  · obtain ⟨c, v, l, hc, zc⟩ := F.cel st y hy hk
    exact ⟨c, v, l, hc, .inl zc⟩
  · have hji : j ≠ i := fun q => by subst q; cases set_val_self hd
    obtain ⟨v, H', id⟩ := F.val j y d hj (other hji hd)
    exact ⟨v, H', id.move mv⟩
  · by_cases hji : j = i
    · subst hji
      cases set_val_self hd
      obtain ⟨u, H', id⟩ := F.val j y _ hj self
      simp only [D.Is] at id
      subst id
      refine ⟨_, L, H', hB, fun q hq => ?_⟩
      have := hL q hq
      exact ⟨.inr (inL_mem hq), if_pos (inL_mem hq), this.2.2⟩
    · obtain ⟨ws, L', H', b', hL'⟩ := F.box j y l hj (other hji hd)
      refine ⟨ws, L', H', b', fun q hq => ?_⟩
      obtain ⟨z, e, r⟩ := hL' q hq
      refine ⟨.inl z, ?_, r⟩
      have no : ¬ inL L q.1 := fun w => by
        obtain ⟨o, ho⟩ := inL_of w
        exact (hL _ ho).2.1 z
      exact (if_neg no).trans e
  · obtain ⟨o, ho⟩ := inL_of e
    exact (hL _ ho).1
end
end Mine
end
section -- S43
open PySem PySem.W PyProof.Rows PySem.Calls PySem.Spec
set_option Elab.async false
set_option maxRecDepth 100000
set_option linter.unusedVariables false
set_option autoImplicit false
set_option pp.maxSteps 600
namespace Mine
section
variable {W : Wd} {f : Fd} {ρ ρ' : List Vr} {μ : Mu} {n : Nat}

/-- data that know of no heap -/
noncomputable def Flat (ds : List D) : Prop := ∀ Y h vs, D.IsL Y h ds vs → ∀ Y' h', D.IsL Y' h' ds vs
theorem Flat.of {ds : List D} (h : ∀ d ∈ ds, flatD d = true) : Flat ds := by
  intro Y hh vs il Y' h'
  induction ds generalizing vs with
  | nil => simpa only [D.IsL] using il
  | cons d r ih =>
    simp only [D.IsL] at il ⊢
    obtain ⟨v, q, e, i1, i2⟩ := il
    exact ⟨v, q, e, flatD.is (h d (.head _)) i1, ih (fun d hd => h d (.tail _ hd)) _ i2⟩
/-- x = [..], a list that will change -/
theorem boxNew (pl : Bool) {x : Str} {px p pos : Pos} {es : List Expr} {ds : List D} {i : Nat} (V : W.Ok) (h : EvL W n f ρ es ds) (hfl : Flat ds) (hsz : ds.length ≤ sizeLine) (hx : f.nm[i]? = some x) (hk : f.env.kindOf x = some .local) (hi : i < ρ.length)
    (hs : swapsWith (.List es p) (some (.Name x px)) pos.line f.env = pure false := by rfl) : Ex W n f ρ (.Assign [.Name x px] (.List es p) pos) (ρ.set i (.box (FlatL pl ds))) := by
  intro A r s μ I F
  refine wpAny_Assign_Name (hs := hs) (List_ (wpAny_mono (h A r p s μ I F) (fun vs s1 q => ?_) fun _ _ z => z))
  obtain ⟨k1, I1, il⟩ := q
  have F1 := F.step I k1
  refine wpAny_newObj_type ?_ (by show vs.toArray.size ≤ sizeLine; rw [List.size_toArray, il.length]; exact hsz)
  generalize ha : s1.heap.objs.size = a at *
  let o : Obj := { cls := .type "list", data := .seq vs.toArray }
  have k2 : Kp No s1 { s1 with heap := s1.heap.push o } := Kp.push _
  have I2 : Inv W (s1.heap.push o) := I1.push V _
  have ho2 : (s1.heap.push o).get? a = some o := ha ▸ Heap.get?_push_size _ rfl
  have hsa : s.heap.objs.size ≤ a := ha ▸ k1.size
  have hBa : W.B ≤ a := ha ▸ I1.size
  have ltY : ∀ b, Yo f μ b → b ≠ a := fun b y q => absurd (F1.lt b y).1 (by rw [q, ha]; exact Nat.lt_irrefl _)
  have hz2 : a < (s1.heap.push o).objs.size := by rw [Heap.size_push, ha]; exact Nat.lt_succ_self _
  have e1 : ∀ b, inL [(a, o)] b → b = a := fun b h => by
    obtain ⟨o', ho'⟩ := inL_of h
    cases List.mem_singleton.mp ho'; rfl
  have F2 := F1.setX (s' := { s1 with heap := s1.heap.push o }) (X := fun b => f.X b ∨ inL [(a, o)] b) I1 k2 (fun b q => q.imp_right fun e => by rw [e1 b e, ha]; exact Nat.le_refl _) (fun b q => by
    rcases q with q | q
    · exact ⟨Nat.lt_of_lt_of_le (F1.lt b (.inl q)).1 k2.size, (F1.lt b (.inl q)).2⟩
    · rw [e1 b q]; exact ⟨hz2, hBa⟩)
  refine sto0 (f := f.setX fun b => f.X b ∨ inL [(a, o)] b) (s := { s1 with heap := s1.heap.push o }) V I2 F2 (x := x) (i := i) hx (.inl hk) (d := .val (.ref a)) D.Is.val fun s3 k3 I3 F3 => ?_
  have nza : ¬ μ.Z a := fun z => ltY a (.inr z) rfl
  have taba : ¬ isTab a := fun t => absurd (V.lowT a t) (Nat.not_lt.mpr hBa)
  have ho3 := k3.keep _ _ ho2 (fun z => nza z.1) taba
  obtain ⟨m, hm⟩ := F.ns
  have hlo : f.lo ≤ a := Nat.le_trans (F.low _ F.nsZ) (Nat.le_trans (Nat.le_of_lt hm.lt) hsa)
  refine ⟨rfl, _, ⟨((k1.trans0 k2).up.trans k3 fun b z => .inl z.1), I3, F3.toBox (B := FlatL pl ds) hi ⟨x, hx⟩ ⟨a, o, vs, 0, rfl, rfl, rfl, fun _ => rfl, rfl, hfl _ _ _ il⟩ (fun q hq => ?_), fun b z => z.imp_right fun e => by rw [e1 b e]; exact hsa⟩⟩
  cases List.mem_singleton.mp hq
  exact ⟨hlo, nza, ho3, rfl, _, _, rfl⟩

/-- one object of a box changes -/
theorem Fm.boxSet {h h' : Heap} {i : Nat} {x : Str} {B B' : Bx} {a : Addr} {v : Value} {L L' : List (Addr × Obj)} (F : Fm W f ρ μ h) (hx : f.nm[i]? = some x) (hb : ρ[i]? = some (Vr.box B)) (H : Has f.env h x v) (hL : BoxAt μ h i L) (ha : ∃ o, (a, o) ∈ L)
    (hs : Heap.SameBut a h h') (hB' : B' v L') (hL' : ∀ q ∈ L', (q.1 ≠ a → q ∈ L) ∧ (q.1 = a → h'.get? a = some q.2 ∧ q.2.cls = .type "list" ∧ ∃ vs c, q.2.data = .seq vs c)) : Fm W f (ρ.set i (.box B')) μ h' := by
  obtain ⟨oa, hoa⟩ := ha
  obtain ⟨za, ea, ga, ca, da⟩ := hL _ hoa
  have mv : Mv (Yo f μ) (Yo f μ) h h' := ⟨fun _ z => .inl z, fun b o e y _ => (hs.2 b (fun q => y (by rw [q]; exact .inr za))).trans e⟩
  have kns : ∀ m, h.Ns f.env.locals m → h'.Ns f.env.locals m := fun m hm => hm.sameBut hs (Ne.symm (ns_ne_seq hm ga da))
  have kc : ∀ c v, h.IsCell c v → h'.IsCell c v := fun c v hc => hc.sameBut hs (Ne.symm (cell_ne_seq hc ga da))
  have has : ∀ y v, Has f.env h y v → Has f.env h' y v := fun y v H => by
    rcases H with ⟨a, m, hm, e⟩ | ⟨a, c, l, hc⟩
    · exact .inl ⟨a, m, kns _ hm, e⟩
    · exact .inr ⟨a, c, l, kc _ _ hc⟩
  have li : i < ρ.length := (List.getElem?_eq_some_iff.mp hb).1
  refine ⟨F.kind, F.glob, F.blt, F.nod, let ⟨m, hm⟩ := F.ns; ⟨m, kns m hm⟩, F.nsZ, fun st y hy hyk => ?_, F.ap, fun j y d hj hd => ?_, fun j y l hj hd => ?_, fun b y => by rw [hs.1]; exact F.lt b y, F.low, F.base⟩
  · obtain ⟨c, v, l, hc, zc⟩ := F.cel st y hy hyk
    exact ⟨c, v, l, kc _ _ hc, zc⟩
  · have hji : j ≠ i := fun q => by subst q; cases set_val_self hd
    obtain ⟨v, H', id⟩ := F.val j y d hj (set_other hji hd)
    exact ⟨v, has _ _ H', id.move mv⟩
  · by_cases hji : j = i
    · subst hji
      cases set_val_self hd
      rw [hx] at hj; cases hj
      refine ⟨v, L', has _ _ H, hB', fun q hq => ?_⟩
      by_cases e : q.1 = a
      · obtain ⟨g, r⟩ := (hL' q hq).2 e
        rw [e]; exact ⟨za, ea, g, r⟩
      · obtain ⟨z, e', g, r⟩ := hL q ((hL' q hq).1 e)
        exact ⟨z, e', (hs.2 _ e).trans g, r⟩
    · obtain ⟨u, M, H', b', hM⟩ := F.box j y l hj (set_other hji hd)
      refine ⟨u, M, has _ _ H', b', fun q hq => ?_⟩
      obtain ⟨z, e', g, r⟩ := hM q hq
      exact ⟨z, e', (hs.2 _ fun q' => hji (by rw [← e', q', ea])).trans g, r⟩
theorem D.IsL.setF {ds : List D} {vs : List Value} {k : Nat} {d : D} {v : Value} (h : ∀ Y h, D.IsL Y h ds vs) (hd : ∀ Y h, D.Is Y h d v) : ∀ Y h, D.IsL Y h (ds.set k d) (vs.set k v) := fun Y hh => (h Y hh).set (hd Y hh) k

/-- x[ie] += ve, x a box of ints -/
theorem boxAug {x : Str} {px tp pos : Pos} {ie ve : Expr} {i k : Nat} {pl : Bool} {ds : List D} {a b : Int} (V : W.Ok) (hx : f.nm[i]? = some x) (hb : ρ[i]? = some (Vr.box (FlatL pl ds))) (hie : Ev W n f ρ ie (.int k)) (hve : Ev W n f ρ ve (.int b))
    (hk : ds[k]? = some (.int a)) (hsz : ds.length ≤ 1000) (hd : (x == ("__debug__" : Str)) = false := by decide) (hd2 : (x == ("__classdict__" : Str)) = false := by decide)
    (ha : ∀ ov iv new, augStore ie ov iv new = (do holding [new, ov, iv] (setItem ov iv new); release [new, ov, iv] []; pure .next) := by intro _ _ _; rfl) :
    Ex W n f ρ (.AugAssign (.Subscript (.Name x px) ie tp) .Add ve pos) (ρ.set i (.box (FlatL false (ds.set k (.int (a + b)))))) := by
  intro A r s μ I F
  have hkl : k < ds.length := (List.getElem?_eq_some_iff.mp hk).1
  obtain ⟨w, L, H, bx, hL⟩ := F.box i x _ hx hb
  obtain ⟨P, o, vs, c, rfl, rfl, hc, hdn, hdat, il⟩ := bx
  have keepP : ∀ {s1 : Shared}, Kp No s s1 → s1.heap.get? P = some o := fun k1 => (by
    obtain ⟨z, e, g, _⟩ := hL _ (List.mem_singleton.mpr rfl)
    exact k1.keep _ _ g (fun z => z) (cls_notab I g (by rw [hc]; simp)))
  have lst : ∀ {s1 : Shared}, Kp No s s1 → s1.heap.IsList P vs.toArray := fun k1 => ⟨o, keepP k1, hc, c, hdat⟩
  refine wpAny_AugAssign_Subscript_any (wpAny_Name (x := x) ?_ hd) ha
  have goal : ∀ {Q : Value → Shared → Prop}, Q (.ref P) s → wpAny W.M A (loadName f.env x) Q Fz s := fun {Q} q => by
    rcases H with ⟨a, m, hn, e⟩ | ⟨a | a, c, l, hc⟩
    · exact wpAny_loadName_local F.kind a hn e q
    · exact wpAny_loadName_cell F.kind a l hc q
    · exact wpAny_loadName_free F.kind a l hc q hd2
  refine goal ?_
  refine hie.use r I F fun iv s1 k1 I1 F1 i1 => ?_
  obtain ⟨t, rfl⟩ := D.Is.int_iff.mp i1
  obtain ⟨old, ho, io⟩ := (il No s.heap).get k hk
  refine wpAny_getItem_list (lst k1) (by omega) (by omega) (x := old) (by simpa using ho) ?_
  refine hve.use r I1 F1 fun v s2 k2 I2 G2 i2 => ?_
  have io2 : D.Is (Yo f μ) s2.heap (.int a) old := by simpa only [D.Is] using io
  refine wpAny_mono (F2.iaddI (n := n) A r s2 (Yo f μ) old v I2 G2.yk io2 i2) (fun nv s3 q => ?_) fun _ _ z => z
  obtain ⟨k3, I3, i3⟩ := q
  have F3 := G2.step I2 k3
  have k13 := (k1.trans0 k2).trans0 k3
  have hlen := (il No s.heap).length
  refine wpAny_setItem_list (lst k13) (by omega) (by omega) (by simp [hlen]; omega) fun h' hl' hsb => ?_
  obtain ⟨zP, eP, _⟩ := hL _ (List.mem_singleton.mpr rfl)
  have hB : ∀ b, b = P → W.B ≤ b := fun b e => by rw [e]; exact F3.highZ _ zP
  have kq : Kq (fun b => b = P) s3.heap h' := Kq.one hsb (keepP k13) (noCode hc)
  have k4 : Kp (fun b => b = P) s3 { s3 with heap := h' } := kq.kp (tk := s3.toks) (V.high hB)
  obtain ⟨o', ho', hc', c', hd'⟩ := hl'
  have H3 : Has f.env s3.heap x (.ref P) := H.keep I fun b o e t => k13.keep b o e (fun z => z) t
  have hL3 : BoxAt μ s3.heap i [(P, o)] := hL.keep fun b o z e c d => k13.keep b o e (fun z => z) (cls_notab I e (by rw [c]; simp))
  refine ⟨rfl, μ, ⟨?_, I3.step V kq hB, F3.boxSet (L' := [(P, o')]) hx hb H3 hL3 ⟨o, List.mem_singleton.mpr rfl⟩ hsb ⟨P, o', vs.set k nv, c', rfl, rfl, hc', (fun q => by cases q), by simpa using hd', D.IsL.setF il fun Y h => by simpa only [D.Is] using i3⟩ (fun q hq => ?_), fun _ z => .inl z⟩⟩
  · exact k13.up.trans k4 fun b e => .inl (by rw [show b = P from e]; exact zP)
  · cases List.mem_singleton.mp hq
    exact ⟨fun q => absurd rfl q, fun _ => ⟨ho', hc', _, _, hd'⟩⟩
/-- x.append(e), x a box -/
theorem boxApp {x : Str} {px apos cp pos : Pos} {e : Expr} {i : Nat} {ds : List D} {d : D} (V : W.Ok) (hx : f.nm[i]? = some x) (hb : ρ[i]? = some (Vr.box (FlatL true ds))) (he : Ev W n f ρ e d) (hfl : flatD d = true)
    (hsz : ds.length ≤ 1000) (hd : (x == ("__debug__" : Str)) = false := by decide) (hd2 : (x == ("__classdict__" : Str)) = false := by decide)
    (hbase : attributeBase (.Name x px) "append" f.env (eval (.Name x px) f.env) = eval (.Name x px) f.env := by rfl)
    (hfew : ((backTo cp (starEach [e] f.env)).all (fun x => !x.1) && (backToKw cp (keywordEach [] f.env)).all (fun x => x.1.isSome)
      && decide (([e] : List Expr).length + ([] : List Keyword).length + (if ([] : List Keyword).isEmpty then 0 else 1) < 30)) = true := by rfl)
    (hline : (apos.endLine == cp.line) = true := by rfl) (htrees : backTo cp (starEach [e] f.env) = [(false, eval e f.env)] := by rfl) (hint : interactive f.env = false := by rfl) (hsw : swapsWith (.Call (.Attribute (.Name x px) "append" apos) [e] [] cp) none pos.line f.env = pure false := by rfl) :
    Ex W n f ρ (.Expr (.Call (.Attribute (.Name x px) "append" apos) [e] [] cp) pos) (ρ.set i (.box (FlatL true (ds ++ [d])))) := by
  intro A r s μ I F
  obtain ⟨w, L, H, bx, hL⟩ := F.box i x _ hx hb
  obtain ⟨P, o, vs, c, rfl, rfl, hc, hdn, hdat, il⟩ := bx
  have hp : ∀ {s1 : Shared}, Kp No s s1 → PlainL s1.heap P vs.toArray := fun k1 => ⟨o, c, (by
    obtain ⟨z, e, g, _⟩ := hL _ (List.mem_singleton.mpr rfl)
    exact k1.keep _ _ g (fun z => z) (cls_notab I g (by rw [hc]; simp))), hc, hdn rfl, hdat⟩
  obtain ⟨zP, eP, _⟩ := hL _ (List.mem_singleton.mpr rfl)
  refine wpAny_Expr_any (hi := hint) (hs := hsw) (wpAny_Call_append hbase hfew hline htrees (wpAny_Name (x := x) ?_ hd))
  have goal : ∀ {Q : Value → Shared → Prop}, Q (.ref P) s → wpAny W.M A (loadName f.env x) Q Fz s := fun {Q} q => by
    rcases H with ⟨a, m, hn, e⟩ | ⟨a | a, c, l, hc⟩
    · exact wpAny_loadName_local F.kind a hn e q
    · exact wpAny_loadName_cell F.kind a l hc q
    · exact wpAny_loadName_free F.kind a l hc q hd2
  refine goal ⟨P, vs.toArray, rfl, hp (Kp.refl _ _), ?_⟩
  refine he.use r I F fun v s1 k1 I1 F1 i1 => ?_
  have hlen := (il No s.heap).length
  refine list_append_plainL (hp k1) (fun h' hl' hsb => ?_) (by simp [hlen]; unfold sizeLine; omega)
  obtain ⟨o', c', ho', hc', hdn', hd'⟩ := hl'
  have hB : ∀ b, b = P → W.B ≤ b := fun b e => by rw [e]; exact F1.highZ _ zP
  have g1 : s1.heap.get? P = some o := by
    obtain ⟨z, e, g, _⟩ := hL _ (List.mem_singleton.mpr rfl)
    exact k1.keep _ _ g (fun z => z) (cls_notab I g (by rw [hc]; simp))
  have kq : Kq (fun b => b = P) s1.heap h' := Kq.one hsb g1 (noCode hc)
  have k4 : Kp (fun b => b = P) s1 { s1 with heap := h' } := kq.kp (tk := s1.toks) (V.high hB)
  have H3 : Has f.env s1.heap x (.ref P) := H.keep I fun b o e t => k1.keep b o e (fun z => z) t
  have hL3 : BoxAt μ s1.heap i [(P, o)] := hL.keep fun b o z e c d => k1.keep b o e (fun z => z) (cls_notab I e (by rw [c]; simp))
  refine ⟨rfl, μ, ⟨?_, I1.step V kq hB, F1.boxSet (L' := [(P, o')]) hx hb H3 hL3 ⟨o, List.mem_singleton.mpr rfl⟩ hsb ⟨P, o', vs ++ [v], c', rfl, rfl, hc', (fun _ => hdn'), by simpa using hd', fun Y h => (il Y h).append (.cons (flatD.is hfl i1) .nil)⟩ (fun q hq => ?_), fun _ z => .inl z⟩⟩
  · exact k1.up.trans k4 fun b e => .inl (by rw [show b = P from e]; exact zP)
  · cases List.mem_singleton.mp hq
    exact ⟨fun q => absurd rfl q, fun _ => ⟨ho', hc', _, _, hd'⟩⟩
/-- less is known -/
noncomputable def Fgt : List Vr → List Vr → Prop
  | [], [] => True
  | a :: r, b :: r' => (b = .un ∨ a = b) ∧ Fgt r r'
  | _, _ => False
theorem Fgt.get : ∀ {ρ ρ' : List Vr}, Fgt ρ ρ' → ∀ (i : Nat) (v : Vr), ρ'[i]? = some v → v ≠ .un → ρ[i]? = some v
  | [], [], _, i, v, e, _ => e
  | a :: r, b :: r', h, 0, v, e, n => by
    simp at e ⊢; subst e
    rcases h.1 with h | h
    · exact absurd h n
    · exact h
  | a :: r, b :: r', h, i + 1, v, e, n => by simpa using Fgt.get h.2 i v (by simpa using e) n
theorem Exs.fgt {ρ ρ' ρ'' : List Vr} {sts : List Stmt} (h : Exs W n f ρ sts ρ') (g : Fgt ρ' ρ'') : Exs W n f ρ sts ρ'' := fun A r s μ I F =>
  wpAny_mono (h A r s μ I F) (fun fl s' p => ⟨p.1, let ⟨μ', k, I', F', gr⟩ := p.2; ⟨μ', k, I', F'.forget (fun i d e => g.get i _ e (by simp)) fun i B e => g.get i _ e (by simp), gr⟩⟩) fun _ _ z => z
theorem Ex.one' {ρ ρ' : List Vr} {st : Stmt} (h : Ex W n f ρ st ρ') : Exs W n f ρ [st] ρ' := Exs.cons h Exs.nil
end
end Mine
end
section -- S44
open PySem PySem.W PyProof.Rows PySem.Calls PySem.Spec
set_option Elab.async false
set_option maxRecDepth 100000
set_option linter.unusedVariables false
set_option autoImplicit false
set_option pp.maxSteps 600
namespace Mine
section
variable {W : Wd} {f : Fd} {ρ ρ' : List Vr} {μ : Mu} {n : Nat}

noncomputable def cellStep (i : Nat) (b : Int) (cs : List Int) : List Int := cs.set (i % 6) (cs.getD (i % 6) 0 + b)
noncomputable def cellsF : Nat → List Int → List Int → List Int
  | _, [], cs => cs
  | i, b :: r, cs => cellsF (i + 1) r (cellStep i b cs)
theorem cellsF_len : ∀ {ns : List Int} {i : Nat} {cs : List Int}, (cellsF i ns cs).length = cs.length
  | [], _, _ => rfl
  | b :: r, i, cs => by rw [cellsF, cellsF_len, cellStep, List.length_set]
theorem cellsF_snoc : ∀ {ns : List Int} {i : Nat} {cs : List Int} {b : Int}, cellsF i (ns ++ [b]) cs = cellStep (i + ns.length) b (cellsF i ns cs)
  | [], _, _, _ => rfl
  | a :: r, i, cs, b => by
    rw [List.cons_append, cellsF, cellsF_snoc, cellsF, List.length_cons]
    congr 1; omega
noncomputable def cells0 : List Int := [24, 7, 21, 16, 32, 997]
noncomputable def cellsOf (ns : List Int) : List Int := (cellsF 0 ns cells0).map fun c => c.fmod 1000000
theorem nums_get : ∀ {ds : List D} {k i : Nat} {d : D}, (nums k ds)[i]? = some d → ∃ e, ds[i]? = some e ∧ d = .tup [.int ((k + i : Nat) : Int), e]
  | [], _, _, _, h => by simp [nums] at h
  | e :: r, k, 0, d, h => by simp [nums] at h; exact ⟨e, rfl, h.symm⟩
  | e :: r, k, i + 1, d, h => by
    obtain ⟨e', h1, h2⟩ := nums_get (ds := r) (k := k + 1) (i := i) (by simpa [nums] using h)
    exact ⟨e', by simpa using h1, by rw [h2]; congr 4; omega⟩
theorem flat_ints (l : List Int) : Flat (l.map D.int) := Flat.of fun d hd => by obtain ⟨_, _, rfl⟩ := List.mem_map.mp hd; rfl
set_option maxHeartbeats 4000000 in
theorem c_cells {ns : List Int} (V : W.Ok) (hn : ns.length ≤ 1000) : Cl W 4 (.ref 154) [.lst (ns.map D.int)] (.lst ((cellsOf ns).map D.int)) := by
  refine Cl.fnX (nm := [S "script", S "cells", S "place", S "number"]) (k := 3) V (fnAt rfl rfl) (cdAt rfl rfl rfl rfl) rfl rfl rfl rfl ?_ (by decide) (by simp) (by decide +kernel) fun X L hXL => ?_
  · intro vs h
    rcases vs with _ | ⟨v0, _ | _⟩ <;> simp at h
    rfl
  refine Rt.cons (boxNew false (ds := cells0.map D.int) (i := 1) V (EvL.cons Ev.int (EvL.cons Ev.int (EvL.cons Ev.int (EvL.cons Ev.int (EvL.cons Ev.int (EvL.cons Ev.int EvL.nil)))))) (flat_ints _) (by decide) rfl rfl (by simp [vals])) ?_
  refine Rt.cons (Ex.forIn (ds := nums 0 (ns.map D.int)) true V (fun i => [.val (.lst (ns.map D.int)), .box (FlatL false ((cellsF 0 (ns.take i) cells0).map D.int)), .un, .un]) (It.enum V (Ev.bname (v := .type "enumerate") V rfl (by kernel_rfl) (by decide +kernel)) (Ev.name 0 rfl rfl)) ?_ ?_) ?_
  · intro d hd
    obtain ⟨i, e', rfl, hm⟩ := mem_nums (P := fun _ => True) (fun _ _ => trivial) hd
    exact .inr ⟨rfl, _, _, _, _, rfl, rfl⟩
  · intro i d hd X'
    obtain ⟨e, he, rfl⟩ := nums_get hd
    rw [List.getElem?_map] at he
    obtain ⟨b, hb, rfl⟩ : ∃ b, ns[i]? = some b ∧ e = .int b := by
      cases h : ns[i]? with
      | none => rw [h] at he; cases he
      | some b => rw [h] at he; cases he; exact ⟨b, rfl, rfl⟩
    refine ⟨_, Asn.tuple V (.cons (Asn.name V 2 rfl (.inl rfl)) rfl (.cons (Asn.name V 3 rfl (.inl rfl)) rfl .nil)), ?_⟩
    have hl : (cellsF 0 (ns.take i) cells0).length = 6 := cellsF_len
    have hlt : i % 6 < (cellsF 0 (ns.take i) cells0).length := by omega
    have e1 : ((0 + i : Nat) : Int).fmod 6 = ((i % 6 : Nat) : Int) := by rw [Int.fmod_eq_emod_of_nonneg _ (by decide)]; omega
    refine (Ex.one' (boxAug (i := 1) (k := i % 6) (a := (cellsF 0 (ns.take i) cells0).getD (i % 6) 0) (b := b) (pl := false) V rfl rfl (Ev.conv (Ev.bin (Ev.name 2 rfl rfl) Ev.int (F2.modI (by decide))) (by rw [e1])) (Ev.name 3 rfl rfl) ?_ ?_)).fgt ?_
    · rw [List.getElem?_map, List.getElem?_eq_getElem hlt, List.getD_eq_getElem?_getD, List.getElem?_eq_getElem hlt]; rfl
    · rw [List.length_map, hl]; decide
    · refine ⟨.inr rfl, .inr ?_, .inl rfl, .inl rfl, trivial⟩
      congr 2
      have : ns.take (i + 1) = ns.take i ++ [b] := by rw [List.take_add_one, hb]; rfl
      have hi : i < ns.length := (List.getElem?_eq_some_iff.mp hb).1
      rw [this, cellsF_snoc, cellStep, List.map_set, Nat.zero_add, List.length_take, Nat.min_eq_left (Nat.le_of_lt hi)]
  · rw [nums_length, List.length_map, List.take_length]
    refine Rt.freeze (i := 1) rfl rfl hXL ?_
    have e : D.lst ((cellsOf ns).map D.int) = .lst (((((cellsF 0 ns cells0).map D.int)).filter fun _ => true).map fun d => match d with | .int c => .int (c.fmod 1000000) | d => d) := by
      rw [List.filter_eq_self.mpr (fun _ _ => rfl), List.map_map, cellsOf, List.map_map]; rfl
    rw [e]
    refine Rt.ret (Ev.comp (caps := []) (tn := [S "cell"]) false V (p := fun _ => true) (g := fun d => match d with | .int c => .int (c.fmod 1000000) | d => d) (It.lst V (Ev.name 1 rfl rfl)) ?_ rfl trivial ?_ ?_)
    · intro d hd
      exact .inl ⟨rfl, _, _, rfl⟩
    · intro d hd X C L
      obtain ⟨c, _, rfl⟩ := List.mem_map.mp hd
      exact ⟨[.val (.int c)], rfl, Asn.name V 0 rfl (.inl rfl), Tss.nil, fun _ => Ev.bin (Ev.name 0 rfl rfl) Ev.int (F2.modI (by decide))⟩
    · rw [List.length_map, cellsF_len]; decide
end
end Mine
end
section -- S45
open PySem PySem.W PyProof.Rows PySem.Calls PySem.Spec
set_option Elab.async false
set_option maxRecDepth 100000
set_option linter.unusedVariables false
set_option autoImplicit false
set_option pp.maxSteps 600
namespace Mine
section
variable {W : Wd} {f : Fd} {ρ ρ' : List Vr} {μ : Mu} {n : Nat}

theorem lsl_take {α : Type} (l : List α) (i : Nat) : lsl l none (some (i : Int)) = l.take i := by
  unfold lsl
  have h : clipAt l.length (i : Int) = min i l.length := by unfold clipAt; rw [if_neg (by omega)]; omega
  simp only [Option.elim, List.drop_zero, h, Nat.sub_zero]
  rw [← List.take_take, List.take_length]
noncomputable abbrev nat (k : Nat) : D := .int (k : Int)
/-- one step of _law_alone: how many lie at the beginning of the range k -/
noncomputable def there (st en : List Int) (ts : List Nat) (i : Nat) (k : Nat) : Nat := ((ts.take (i + 1)).filter fun o => decide (en.getD o 0 > st.getD k 0)).length
noncomputable def aloneStep (st en : List Int) (ts : List Nat) (i : Nat) (k : Nat) (a : List Nat × Nat) : List Nat × Nat :=
  if there st en ts i k > a.2 then (a.1 ++ [k], there st en ts i k) else a
noncomputable def aloneAt (st en : List Int) (ts : List Nat) : Nat → List Nat × Nat
  | 0 => ([], 0)
  | i + 1 => aloneStep st en ts i (ts.getD i 0) (aloneAt st en ts i)
theorem aloneAt_len (st en : List Int) (ts : List Nat) : ∀ i, (aloneAt st en ts i).1.length ≤ i
  | 0 => Nat.le_refl _
  | i + 1 => by
    have := aloneAt_len st en ts i
    rw [aloneAt, aloneStep]
    split
    · simp only [List.length_append, List.length_singleton]; omega
    · omega
theorem getMap {α : Type} {g : α → D} {l : List α} {k : Nat} {d : α} (h : k < l.length) : (l.map g)[k]? = some (g (l.getD k d)) := by
  rw [List.getElem?_map, List.getElem?_eq_getElem h, List.getD_eq_getElem?_getD, List.getElem?_eq_getElem h]; rfl
set_option maxHeartbeats 4000000 in
theorem c_alone {st en : List Int} {ts : List Nat} (V : W.Ok) (hs : st.length = 5) (he : en.length = 5) (ht : ∀ k ∈ ts, k < 5) (hn : ts.length ≤ 5) : Cl W 6 (.ref 205) [.lst (ts.map nat), .lst (st.map D.int), .lst (en.map D.int)] (.lst ((aloneAt st en ts ts.length).1.map nat)) := by
  refine Cl.fnX (nm := [S "turns", S "starts", S "stops", S "alone", S "most", S "place", S "k", S "there"]) (k := 5) V (fnAt rfl rfl) (cdAt rfl rfl rfl rfl) rfl rfl rfl rfl ?_ (by decide) (by simp) (by decide +kernel) fun X L hXL => ?_
  · intro vs h
    rcases vs with _ | ⟨v0, _ | ⟨v1, _ | ⟨v2, _ | _⟩⟩⟩ <;> simp at h
    rfl
  refine Rt.cons (boxNew true (ds := []) (i := 3) V EvL.nil (fun _ _ _ h _ _ => by simpa only [D.IsL] using h) (by decide) rfl rfl (by simp [vals])) ?_
  refine Rt.cons (Ex.assign 4 V Ev.int rfl (.inl rfl)) ?_
  refine Rt.cons (Ex.forIn (ds := nums 0 (ts.map nat)) true V (fun i => [.val (.lst (ts.map nat)), .val (.lst (st.map D.int)), .val (.lst (en.map D.int)), .box (FlatL true ((aloneAt st en ts i).1.map nat)), .val (nat (aloneAt st en ts i).2), .un, .un, .un])
    (It.enum V (Ev.bname (v := .type "enumerate") V rfl (by kernel_rfl) (by decide +kernel)) (Ev.name 0 rfl rfl)) ?_ ?_) ?_
  · intro d hd
    obtain ⟨i, e', rfl, hm⟩ := mem_nums (P := fun _ => True) (fun _ _ => trivial) hd
    exact .inr ⟨rfl, _, _, _, _, rfl, rfl⟩
  · intro i d hd X'
    obtain ⟨e, he', rfl⟩ := nums_get hd
    rw [List.getElem?_map] at he'
    obtain ⟨k, hk, rfl⟩ : ∃ b, ts[i]? = some b ∧ e = nat b := by
      cases h : ts[i]? with
      | none => rw [h] at he'; cases he'
      | some b => rw [h] at he'; cases he'; exact ⟨b, rfl, rfl⟩
    have hi : i < ts.length := (List.getElem?_eq_some_iff.mp hk).1
    have hk5 : k < 5 := ht k (List.mem_of_getElem? hk)
    have hkd : ts.getD i 0 = k := by rw [List.getD_eq_getElem?_getD, hk]; rfl
    have hstep : aloneAt st en ts (i + 1) = aloneStep st en ts i k (aloneAt st en ts i) := by rw [aloneAt, hkd]
    refine ⟨_, Asn.tuple V (.cons (Asn.name V 5 rfl (.inl rfl)) rfl (.cons (Asn.name V 6 rfl (.inr ⟨rfl, rfl⟩)) rfl .nil)), ?_⟩
    refine Exs.cons (Ex.assign (d := nat (there st en ts i k)) 7 V ?_ rfl (.inl rfl)) ?_
    · apply Ev.call
      case hf => exact Ev.bname (v := .builtin "len") V rfl (by kernel_rfl) (by decide +kernel)
      case ha =>
        refine EvL.cons (d := .lst (((((ts.take (i + 1)).map nat).filter fun d => match d with | .int o => decide (en.getD o.toNat 0 > st.getD k 0) | _ => false)).map id)) ?_ EvL.nil
        refine Ev.comp (caps := [(S "stops", 2, .lst (en.map D.int)), (S "starts", 1, .lst (st.map D.int)), (S "k", 6, nat k)]) (tn := [S "one"]) false V (p := fun d => match d with | .int o => decide (en.getD o.toNat 0 > st.getD k 0) | _ => false) (g := id) (It.lst V (Ev.conv (Ev.sliceL V (Ev.name 0 rfl rfl) EvP.none (EvP.some (Ev.bin (Ev.name 5 rfl rfl) Ev.int F2.addI)) ?_) ?_)) ?_ rfl
          ⟨⟨rfl, rfl, .inl rfl, .inl rfl, rfl⟩, ⟨rfl, rfl, .inl rfl, .inl rfl, rfl⟩, ⟨rfl, rfl, .inl rfl, .inl rfl, rfl⟩, trivial⟩ ?_ ?_ (hnod := (show ([S "one", S "stops", S "starts", S "k"] : List Str).Nodup by decide))
        · rw [List.length_map]; exact Nat.le_trans hn (by decide)
        · rw [show (((0 + i : Nat) : Int) + 1) = ((i + 1 : Nat) : Int) by omega, lsl_take, List.map_take]
        · intro d hd
          exact .inl ⟨rfl, _, _, rfl⟩
        · intro d hd X C L
          obtain ⟨o, ho, rfl⟩ := List.mem_map.mp hd
          have ho5 : o < 5 := ht o (List.mem_of_mem_take ho)
          refine ⟨[.val (nat o)], rfl, Asn.name V 0 rfl (.inl rfl), Tss.one (Ts.cmp (Ev.itemL (Ev.name 1 rfl rfl) (Ev.name 0 rfl rfl) (getMap (d := 0) (by omega))) (Ev.itemL (Ev.name 2 rfl rfl) (Ev.name 3 rfl rfl) (getMap (d := 0) (by omega))) F2.gtI), fun _ => Ev.name 0 rfl rfl⟩
        · rw [List.length_map, List.length_take]; exact Nat.le_trans (Nat.min_le_right _ _) (Nat.le_trans hn (by decide))
      case hk => exact Kept.builtin
      case hc =>
        have e : (((((ts.take (i + 1)).map nat).filter fun d => match d with | .int o => decide (en.getD o.toNat 0 > st.getD k 0) | _ => false)).map id).length = there st en ts i k := by
          rw [List.length_map, there, List.filter_map, List.length_map]; rfl
        have := Cl.lenL (W := W) (n := 5) (l := ((((ts.take (i + 1)).map nat).filter fun d => match d with | .int o => decide (en.getD o.toNat 0 > st.getD k 0) | _ => false)).map id) (by
          rw [e, there]; exact Nat.le_trans (List.length_filter_le _ _) (by rw [List.length_take]; omega))
        rw [e] at this; exact this
      all_goals rfl
    · refine (Ex.one' (Ex.ife (b := decide (there st en ts i k > (aloneAt st en ts i).2)) (ρ' := [.val (.lst (ts.map nat)), .val (.lst (st.map D.int)), .val (.lst (en.map D.int)), .box (FlatL true ((aloneAt st en ts (i + 1)).1.map nat)), .val (nat (aloneAt st en ts (i + 1)).2), .val (nat (0 + i)), .val (nat k), .val (nat (there st en ts i k))])
        (Ts.conv (Ts.cmp (Ev.name 7 rfl rfl) (Ev.name 4 rfl rfl) F2.gtI) (by simp)) (fun hb => ?_) (fun hb => ?_))).fgt ⟨.inr rfl, .inr rfl, .inr rfl, .inr rfl, .inr rfl, .inl rfl, .inl rfl, .inl rfl, trivial⟩
      · have hb' : there st en ts i k > (aloneAt st en ts i).2 := by simpa using hb
        rw [hstep, aloneStep, if_pos hb', List.map_append]
        refine Exs.cons (Ex.assign 4 V (Ev.name 7 rfl rfl) rfl (.inl rfl)) (Ex.one' (boxApp (i := 3) V rfl rfl (Ev.name 6 rfl rfl) rfl ?_))
        rw [List.length_map]
        exact Nat.le_trans (aloneAt_len st en ts i) (by omega)
      · have hb' : ¬ there st en ts i k > (aloneAt st en ts i).2 := by simpa using hb
        rw [hstep, aloneStep, if_neg hb']
        exact Exs.nil
  · rw [nums_length, List.length_map]
    exact Rt.freeze (i := 3) rfl rfl hXL (Rt.ret (Ev.name 3 rfl rfl))
end
end Mine
end
section -- S46
open PySem PySem.W PyProof.Rows PySem.Calls PySem.Spec
set_option Elab.async false
set_option maxRecDepth 100000
set_option linter.unusedVariables false
set_option autoImplicit false
set_option pp.maxSteps 600
namespace Mine
section
variable {W : Wd} {f : Fd} {ρ ρ' : List Vr} {μ : Mu} {n : Nat}

noncomputable def lobj (vs : List Value) (o : Obj) : Prop := o.cls = .type "list" ∧ ∃ c, o.data = .seq (List.toArray vs) c
/-- a list of lists of ints -/
noncomputable def NestB (ll : List (List Int)) : Bx := fun v L => ∃ P oP M, v = .ref P ∧ L = (P, oP) :: M ∧ lobj (M.map fun q => Value.ref q.1) oP ∧ M.length = ll.length ∧ ((P :: M.map (·.1))).Nodup ∧
  ∀ (j : Nat) q l, M[j]? = some q → ll[j]? = some l → ∃ vs, lobj vs q.2 ∧ ∀ Y h, D.IsL Y h (l.map D.int) vs

theorem Kp.at {s s' : Shared} {Z : Addr → Prop} (k : Kp Z s s') (I : Inv W s.heap) {a : Addr} {o : Obj} (e : s.heap.get? a = some o) (hc : o.cls = .type "list") (nz : ¬ Z a) : s'.heap.get? a = some o :=
  k.keep _ _ e nz (cls_notab I e (by rw [hc]; simp))
theorem lobj.isList {h : Heap} {a : Addr} {o : Obj} {vs : List Value} (x : lobj vs o) (e : h.get? a = some o) : h.IsList a vs.toArray := let ⟨c, n, d⟩ := x; ⟨o, e, c, n, d⟩

/-- x = [[..] for t in it]: new lists, all of them apart -/
theorem exNest {y tx : Str} {py px lp spos : Pos} {iy : Nat} {iter : Expr} {es : List Expr} {scope : Scope} {pos : Pos} {ds : List D} (V : W.Ok) (l : List Int)
    (hi : It W n f ρ false iter ds) (hclos : closureFor scope f.env = pure [])
    (helt : ∀ X C L, EvL W n (fdC f scope [] [tx] X C L) [.un] es (l.map D.int)) (hx : scope.names.lookup tx = some .local) (hl2 : l.length ≤ 100)
    (hsz : ds.length ≤ 1000) (hcell : ∀ y ∈ scope.names, y.2 ≠ .cell := by decide) (hkind : scope.kind = .function := by rfl)
    (hnames : ∀ y ∈ scope.names, y.2 = .local → scope.names.lookup y.1 = some .local := by decide)
    (hs : ∀ x, foldedSetIterable iter f.env x = pure x := by intro _; rfl) (hy : f.nm[iy]? = some y) (hyk : f.env.kindOf y = some .local) (hiy : iy < ρ.length)
    (hsw : swapsWith (.ListComp (.List es lp) [⟨.Name tx px, iter, [], 0⟩] scope pos) (some (.Name y py)) spos.line f.env = pure true := by rfl) :
    Ex W n f ρ (.Assign [.Name y py] (.ListComp (.List es lp) [⟨.Name tx px, iter, [], 0⟩] scope pos) spos) (ρ.set iy (.box (NestB (List.replicate ds.length l)))) := by
  intro A r s μ I F
  rw [exec_Assign_Name_used _ _ _ _ hsw]
  refine wpAny_bind (wpAny_standAt (wpAny_bind ?_))
  show wpAny _ A (do let _ ← comprehension (.ListComp (.List es lp) [⟨.Name tx px, iter, [], 0⟩] scope pos) scope f.env _ (newList []) false (eval iter f.env) (some (assign (.Name y py) f.env))) _ _ s
  refine wpAny_bind (wpAny_mono (wpAny_comprehension_free (use := some (assign (.Name y py) f.env)) (Q := fun _ s' => Flow.next = .next ∧ ∃ μ', Af W f μ s (ρ.set iy (.box (NestB (List.replicate ds.length l)))) μ' s') rfl hs hclos hkind hnames (wpAny_mono (hi A r s μ I F) (fun xv s1 h1 => wpAny_mono h1 (fun it s2 h2 => ?_) fun _ _ z => z) fun _ _ z => z)) (fun _ s' hq => wpAny_pure (wpAny_pure hq)) fun _ _ e => e)
  obtain ⟨Zi, k2, I2, hZi, its⟩ := h2
  refine wpAny_newObj_type (wpAny_newFunctionEnv hcell (by intro y hy; simp at hy) (fun h3 hns3 hsb3 => ?_) hkind)
  dsimp only at hns3 hsb3 ⊢
  generalize hD : s2.heap.objs.size = Dl at *
  generalize hH2 : s2.heap.push { cls := .type "list", dict := none, data := .seq ([] : List Value).toArray } = H2 at hns3 hsb3 ⊢
  have hCs : H2.objs.size = Dl + 1 := by rw [← hH2, Heap.size_push, hD]
  generalize hC : H2.objs.size = C at *
  have hDC : (Dl : Addr) ≠ C := by rw [hCs]; exact Nat.ne_of_lt (Nat.lt_succ_self _)
  have hsD : s.heap.objs.size ≤ Dl := by rw [← hD]; exact k2.size
  have hsC : s.heap.objs.size ≤ C := by rw [hCs]; exact Nat.le_succ_of_le hsD
  have sz3 : h3.objs.size = C + 1 := by rw [hsb3.1, Heap.size_push, hC]
  have old : ∀ b o, s2.heap.get? b = some o → h3.get? b = some o := fun b o e => by
    have hlt : b < Dl := hD ▸ Heap.lt_size e
    have hb : b ≠ C := Nat.ne_of_lt (by rw [hCs]; exact Nat.lt_succ_of_lt hlt)
    rw [hsb3.2 b hb, ← hH2]
    exact Heap.get?_push_of_some _ (Heap.get?_push_of_some _ e)
  have hacc : h3.IsList Dl (List.toArray []) := by
    refine ⟨{ cls := .type "list", dict := none, data := .seq ([] : List Value).toArray }, ?_, rfl, _, rfl⟩
    rw [hsb3.2 _ hDC, ← hH2, ← hD]
    exact Heap.get?_push_of_some _ (Heap.get?_push_size _ rfl)
  have kq3 : Kq No s2.heap h3 := .all old (by rw [hD, sz3, hCs]; omega)
  have I3 : Inv W h3 := I2.step V kq3 fun _ z => z.elim
  generalize htk : s2.toks + List.length (α := Str × Value) [] = tk3 at *
  have k3 : Kp No s { s2 with heap := h3, toks := tk3 } := k2.trans0 (kq3.kp fun _ _ z => z)
  let X : Addr → Prop := fun b => Yo f μ b ∨ Zi b ∨ b = Dl
  let fc := fdC f scope [] [tx] X C s.heap.objs.size
  let μc : Mu := ⟨(· = C), fun _ => 0⟩
  have hXlt : ∀ b, X b → b < h3.objs.size ∧ W.B ≤ b := fun b y => by
    rw [sz3, hCs]
    rcases y with y | y | y
    · refine ⟨Nat.lt_of_lt_of_le (F.lt b y).1 (Nat.le_trans hsD ?_), (F.lt b y).2⟩; omega
    · refine ⟨Nat.lt_trans (hZi b y).2 ?_, Nat.le_trans I.size (hZi b y).1⟩; omega
    · rw [y]; exact ⟨Nat.lt_succ_of_lt (Nat.lt_succ_self _), Nat.le_trans I.size hsD⟩
  have F3 : Fm W fc [.un] μc h3 := by
    refine ⟨hkind, F.glob, F.blt, List.nodup_cons.mpr ⟨by simp, List.nodup_nil⟩, ⟨_, hns3⟩, rfl, (fun q => by cases q), (fun q => by cases q), fun i x d hi' hd' => ?_, fun i x l _ hl => ?_, fun b y => ?_, fun b z => z ▸ hsC, I.size⟩
    · have := List.mem_of_getElem? hd'; simp at this
    · have := List.mem_of_getElem? hl; simp at this
    · rcases y with y | y
      · exact hXlt b y
      · rw [show b = C from y, sz3]; exact ⟨Nat.lt_succ_self _, Nat.le_trans I.size hsC⟩
  have its3 : ItS (Yo fc μc) Zi false it ds h3 := its.move ⟨fun b y => by
    rcases y with (y | y | y) | y
    · exact .inl (.inl y)
    · exact .inl (.inr y)
    · exact .inr (by rw [hD]; exact Nat.le_of_eq y.symm)
    · exact .inr (by rw [hD, show b = C from y, hCs]; exact Nat.le_succ _), fun b o e _ _ => old b o e⟩ fun b o _ e => old b o e
  have hZX : ∀ b, Zi b → Yo fc μc b := fun b z => .inl (.inr (.inl z))
  have hZlt : ∀ b, Zi b → b < Dl := fun b z => (hZi b z).2
  have hDltC : Dl < C := by rw [hCs]; exact Nat.lt_succ_self _
  have hZC : ∀ b, Zi b → b ≠ C := fun b z e => absurd (hZlt b z) (by rw [e]; exact Nat.not_lt.mpr (Nat.le_of_lt hDltC))
  have hZD : ∀ b, Zi b → b ≠ Dl := fun b z => Nat.ne_of_lt (hZlt b z)
  have hloc : fc.env.kindOf tx = some .local := lookup_relabel_local hx
  -- what is known of the lists made so far
  let Mo : List (Addr × Obj) → Heap → Prop := fun M h => (M.map (·.1)).Nodup ∧ ∀ q ∈ M, C < q.1 ∧ h.get? q.1 = some q.2 ∧ ∃ vs, lobj vs q.2 ∧ ∀ Y h, D.IsL Y h (l.map D.int) vs
  have moKeep : ∀ {M : List (Addr × Obj)} {s' s'' : Shared} {Z : Addr → Prop}, Mo M s'.heap → Inv W s'.heap → Kp Z s' s'' → (∀ b, Z b → b ≤ C) → Mo M s''.heap := fun {M s' s'' Z} h I' k hz => by
    refine ⟨h.1, fun q hq => ?_⟩
    obtain ⟨lt, e, vs, lo, il⟩ := h.2 q hq
    exact ⟨lt, k.at I' e lo.1 fun z => absurd lt (Nat.not_lt.mpr (hz _ z)), vs, lo, il⟩
  have loop : codeAny W.M A (.compLoop (.ListComp (.List es lp) [⟨.Name tx px, iter, [], 0⟩] scope pos) 0 it (.ref Dl) fc.env) (compPost W.M A Fz (some (assign (.Name y py) f.env)) (fun _ s' => Flow.next = .next ∧ ∃ μ', Af W f μ s (ρ.set iy (.box (NestB (List.replicate ds.length l)))) μ' s') (.ref Dl) C) { s2 with heap := h3, toks := tk3 } := by
    refine compLoop_my (fun k s' => ∃ i M, k = ds.length - i ∧ i ≤ ds.length ∧ Inv W s'.heap ∧ Fm W fc [.un] μc s'.heap ∧ ItS (Yo fc μc) Zi false it (ds.drop i) s'.heap ∧ Kp (fun b => s.heap.objs.size ≤ b) s s' ∧
      s'.heap.IsList Dl (List.toArray (M.map fun q => Value.ref q.1)) ∧ M.length = i ∧ Mo M s'.heap) ?_ ds.length ⟨0, [], by simp, by simp, I3, F3, by simpa using its3, k3.up, hacc, rfl, List.nodup_nil, fun q hq => by cases hq⟩
    rintro k s' ⟨i, M, rfl, hle, I', F', its', k', hl', hMl, hM⟩
    have tabD : ¬ isTab Dl := by obtain ⟨o, ho, hc, _⟩ := hl'; exact cls_notab I' ho (by rw [hc]; simp)
    cases hd : ds.drop i with
    | nil =>
      have hi' : i = ds.length := by
        have := congrArg List.length hd
        simp at this; omega
      rw [hd] at its'
      refine wpAny_mono (ItS.done V r.hd I' F'.yk hZX its') (fun rr s3 q => ?_) fun _ _ z => z.elim
      obtain ⟨rfl, k3, I3⟩ := q
      have F3 := F'.stepZ I' k3 (fun b z => .inr (.inl z)) its'.fields
      obtain ⟨m, hm⟩ := F3.ns
      have hlD : s3.heap.IsList Dl (M.map fun q => Value.ref q.1).toArray := hl'.at fun o e => k3.keep _ o e (fun z => hZD _ z rfl) tabD
      have hM3 : Mo M s3.heap := moKeep hM I' k3 fun b z => Nat.le_of_lt (Nat.lt_trans (hZlt b z) hDltC)
      have kall : Kp (fun b => s.heap.objs.size ≤ b) s s3 := k'.trans k3 fun b z => .inl (hZi b z).1
      have kno : Kp No s s3 := kall.weaken fun b z => .inr z
      have ltC : C < s3.heap.objs.size := hm.lt
      obtain ⟨oD, hoD, hcD, cD, hdD⟩ := id hlD
      let L : List (Addr × Obj) := (Dl, oD) :: M
      have hLs : ∀ q ∈ L, s.heap.objs.size ≤ q.1 ∧ s3.heap.get? q.1 = some q.2 ∧ q.2.cls = .type "list" ∧ q.1 ≠ C ∧ ∃ vs c, q.2.data = .seq vs c := fun q hq => by
        rcases List.mem_cons.mp hq with rfl | hq
        · exact ⟨hsD, hoD, hcD, hDC, _, _, hdD⟩
        · obtain ⟨lt, e, vs, ⟨c1, c2, c3⟩, _⟩ := hM3.2 q hq
          exact ⟨Nat.le_trans hsC (Nat.le_of_lt lt), e, c1, Nat.ne_of_gt lt, _, _, c3⟩
      have fX := F.setX (X := fun b => f.X b ∨ b = C ∨ inL L b) I kno (fun b q => q.imp_right fun e => by
        rcases e with e | e
        · rw [show b = C from e]; exact hsC
        · obtain ⟨o, ho⟩ := inL_of e; exact (hLs _ ho).1) (fun b q => by
        rcases q with q | q | q
        · exact ⟨Nat.lt_of_lt_of_le (F.lt b (.inl q)).1 kno.size, (F.lt b (.inl q)).2⟩
        · rw [show b = C from q]; exact ⟨ltC, Nat.le_trans I.size hsC⟩
        · obtain ⟨o, ho⟩ := inL_of q; exact ⟨Heap.lt_size (hLs _ ho).2.1, Nat.le_trans I.size (hLs _ ho).1⟩)
      have nzL : ∀ q ∈ L, ¬ μ.Z q.1 := fun q hq z => absurd (F.lt q.1 (.inr z)).1 (Nat.not_lt.mpr (hLs q hq).1)
      show wpAny W.M A (assign (.Name y py) f.env (.ref Dl)) _ _ _
      refine wpAny_assign_Name (sto0 (f := f.setX fun b => f.X b ∨ b = C ∨ inL L b) V I3 fX (x := y) (i := iy) hy (.inl hyk) (d := .val (.ref Dl)) D.Is.val fun s4 k4 I4 F4 => ?_)
      have nzC : ¬ μ.Z C := fun z => absurd (F.lt C (.inr z)).1 (Nat.not_lt.mpr hsC)
      have tabC := ns_notab I3 hm
      have hm4 := hm.at' fun o e => k4.keep _ o e (fun z => nzC z.1) tabC
      refine ⟨m, hm4, fun h' hs' => ?_⟩
      obtain ⟨oC, hoC, hcC⟩ := ns_noCode hm4
      have kqC : Kq (fun b => b = C) s4.heap h' := Kq.one hs' hoC hcC
      have hBC : ∀ b, b = C → W.B ≤ b := fun b e => e ▸ Nat.le_trans I.size hsC
      have k5 : Kp (fun b => b = C) s4 { s4 with heap := h' } := kqC.kp (tk := s4.toks) (V.high hBC)
      have F5 : Fm W (f.setX fun b => f.X b ∨ b = C ∨ inL L b) (ρ.set iy (.val (.val (.ref Dl)))) μ h' := F4.stepX (.inr (.inl rfl)) hs' hm4 (fun q => nzC (q ▸ F.nsZ))
      have F6 : Fm W (f.setX fun b => f.X b ∨ inL L b) (ρ.set iy (.val (.val (.ref Dl)))) μ h' := F5.dropX (f := f.setX fun b => f.X b ∨ b = C ∨ inL L b) (X := fun b => f.X b ∨ inL L b) fun b q => q.imp_right .inr
      have hL5 : ∀ q ∈ L, h'.get? q.1 = some q.2 := fun q hq => (hs'.2 _ (hLs q hq).2.2.2.1).trans (k4.at I3 (hLs q hq).2.1 (hLs q hq).2.2.1 fun z => nzL q hq z.1)
      have F7 := F6.toBox (B := NestB (List.replicate ds.length l)) (L := L) hiy ⟨y, hy⟩ ⟨Dl, oD, M, rfl, rfl, ⟨hcD, cD, hdD⟩, by rw [hMl, hi', List.length_replicate], ?_, fun j q l' hq hl' => ?_⟩ (fun q hq => ⟨?_, nzL q hq, hL5 q hq, (hLs q hq).2.2.1, (hLs q hq).2.2.2.2⟩)
      · refine ⟨rfl, _, ⟨((kno.up).trans k4 fun b z => .inl z.1).trans k5 fun b e => .inr (e ▸ hsC), I4.step V kqC hBC, F7, fun b z => z.imp_right fun e => ?_⟩⟩
        obtain ⟨o, ho⟩ := inL_of e
        exact (hLs _ ho).1
      · refine List.nodup_cons.mpr ⟨fun hm => ?_, hM3.1⟩
        obtain ⟨q, hq, e⟩ := List.mem_map.mp hm
        have := (hM3.2 q hq).1
        exact absurd (Nat.lt_trans hDltC this) (by rw [e]; exact Nat.lt_irrefl _)
      · have : l' = l := by rw [List.getElem?_replicate] at hl'; split at hl' <;> cases hl'; rfl
        subst this
        exact (hM3.2 q (List.mem_of_getElem? hq)).2.2
      · obtain ⟨m0, hm0⟩ := F.ns
        exact Nat.le_trans (F.low _ F.nsZ) (Nat.le_trans (Nat.le_of_lt hm0.lt) (hLs q hq).1)
    | cons d rest =>
      have hil : i < ds.length := by
        have := congrArg List.length hd
        simp at this; omega
      have hrest : ds.drop (i + 1) = rest := by rw [← List.tail_drop, hd]; rfl
      rw [hd] at its'
      refine wpAny_mono (ItS.next V I' F'.yk hZX its' (.inl ⟨rfl, tx, px, rfl⟩)) (fun rr s3 q => ?_) fun _ _ z => z.elim
      obtain ⟨v, rfl, q⟩ := q
      refine wpAny_mono q (fun _ s4 q => ?_) fun _ _ z => z.elim
      obtain ⟨k4, I4, iv, it4⟩ := q
      have F4 := F'.stepZ I' k4 (fun b z => .inr (.inl z)) its'.fields
      have l4 : s4.heap.IsList Dl (M.map fun q => Value.ref q.1).toArray := hl'.at fun o e => k4.keep _ o e (fun z => hZD _ z rfl) tabD
      have hM4 : Mo M s4.heap := moKeep hM I' k4 fun b z => Nat.le_of_lt (Nat.lt_trans (hZlt b z) hDltC)
      refine wpAny_mono (Asn.name (n := n) V 0 rfl (.inl hloc) A r s4 μc v I4 F4 iv) (fun _ s5 q => ?_) fun _ _ z => z.elim
      obtain ⟨k5, I5, F5⟩ := q
      have m5 : Mv (Yo fc μc) (Yo fc μc) s4.heap s5.heap := ⟨fun _ z => .inl z, fun b o e y t => k5.keep b o e (fun z => y (.inr z.1)) t⟩
      have it5 : ItS (Yo fc μc) Zi false it rest s5.heap := it4.move m5 fun b o z e => k5.keep b o e (fun q => hZC b z q.1) (F5.notab V (hZX b z))
      have l5 : s5.heap.IsList Dl (M.map fun q => Value.ref q.1).toArray := l4.at fun o e => k5.keep _ o e (fun q => hDC q.1) tabD
      have hM5 : Mo M s5.heap := moKeep hM4 I4 k5 fun b z => Nat.le_of_eq z.1
      have k05 : Kp (fun b => s.heap.objs.size ≤ b) s s5 := (k'.trans k4 fun b z => .inl (hZi b z).1).trans k5 fun b z => .inl (by rw [show b = C from z.1]; exact hsC)
      have F5' : Fm W fc [.un] μc s5.heap := F5.forget (fun j d' hj => by have := List.mem_of_getElem? hj; simp at this) fun j l hj => by have := List.mem_of_getElem? hj; simp at this
      refine wpAny_tests_nil ?_
      simp only [if_true]
      refine List_ (wpAny_mono (helt X C s.heap.objs.size A r lp s5 μc I5 F5') (fun vs s6 q => ?_) fun _ _ z => z)
      obtain ⟨k6, I6, il6⟩ := q
      have F6 := F5'.step I5 k6
      refine wpAny_newObj_type ?_ (by show vs.toArray.size ≤ sizeLine; rw [List.size_toArray, il6.length, List.length_map]; exact Nat.le_trans hl2 (by decide))
      let o : Obj := { cls := .type "list", data := .seq vs.toArray }
      have k7 : Kp No s6 { s6 with heap := s6.heap.push o } := Kp.push _
      have I7 : Inv W (s6.heap.push o) := I6.push V _
      have F7 : Fm W fc [.un] μc (s6.heap.push o) := F6.step (s' := { s6 with heap := s6.heap.push o }) I6 k7
      have k57 := k6.trans0 k7
      have it7 : ItS (Yo fc μc) Zi false it rest (s6.heap.push o) := it5.move (Mv.of_kp k57) fun b o z e => k57.keep b o e (fun q => q) (F5.notab V (hZX b z))
      have l7 : (s6.heap.push o).IsList Dl (M.map fun q => Value.ref q.1).toArray := l5.at fun o e => k57.keep _ o e (fun q => q) tabD
      have hM7 : Mo M (s6.heap.push o) := moKeep (s'' := { s6 with heap := s6.heap.push o }) hM5 I5 k57 fun b z => z.elim
      have ho7 : (s6.heap.push o).get? s6.heap.objs.size = some o := Heap.get?_push_size _ rfl
      have hC6 : C < s6.heap.objs.size := by obtain ⟨m, hm⟩ := F6.ns; exact hm.lt
      refine wpAny_list_append (s := { s6 with heap := s6.heap.push o }) (hsz := by simp [hMl]; exact Nat.le_trans (Nat.le_of_lt (Nat.lt_of_lt_of_le hil hsz)) (by decide)) l7 fun h8 l8 hs8 => ?_
      obtain ⟨oD, hoD, hcD⟩ := list_noCode l7
      have kq8 : Kq (fun b => b = Dl) (s6.heap.push o) h8 := Kq.one hs8 hoD hcD
      have hBD : ∀ b, b = Dl → W.B ≤ b := fun b e => e ▸ Nat.le_trans I.size hsD
      have k8 : Kp (fun b => b = Dl) { s6 with heap := s6.heap.push o } { s6 with heap := h8 } := kq8.kp (s := { s6 with heap := s6.heap.push o }) (tk := s6.toks) (V.high hBD)
      have m8 : Mv (Yo fc μc) (Yo fc μc) (s6.heap.push o) h8 := ⟨fun _ z => .inl z, fun b o e y _ => kq8.keep b o e fun q => y (.inl (.inr (.inr q)))⟩
      have hM8 : Mo M h8 := moKeep (s' := { s6 with heap := s6.heap.push o }) (s'' := { s6 with heap := h8 }) hM7 I7 k8 fun b z => by rw [show b = Dl from z]; exact Nat.le_of_lt hDltC
      refine ⟨ds.length - (i + 1), by omega, i + 1, M ++ [(s6.heap.objs.size, o)], rfl, hil, I7.step V kq8 hBD, ?_, ?_, (k05.trans k57 fun b z => z.elim).trans k8 fun b e => .inl (e ▸ hsD), by simpa using l8, by simp [hMl], ?_, fun q hq => ?_⟩
      · refine F7.move (X := fc.X) (s := { s6 with heap := s6.heap.push o }) (s' := { s6 with heap := h8 }) m8 (fun a o e nf ns t => (hs8.2 a fun q => ?_).trans e) I7 (fun b y => by rw [hs8.1]; exact F7.lt b (.inl y)) (Nat.le_of_eq hs8.1.symm)
        rw [q] at e ns
        have e' := hoD.symm.trans e
        cases e'
        obtain ⟨o', ho', _, k, hd'⟩ := l7
        rw [hoD] at ho'; cases ho'
        exact hDC (ns _ _ hd')
      · rw [hrest]; exact it7.move m8 fun b o z e => (hs8.2 b (hZD b z)).trans e
      · rw [List.map_append]
        refine List.nodup_append.mpr ⟨hM8.1, by simp, fun a ha b hb e => ?_⟩
        obtain ⟨q, hq, rfl⟩ := List.mem_map.mp ha
        simp at hb; subst hb
        have := Heap.lt_size (hM5.2 q hq).2.1
        exact absurd (Nat.lt_of_lt_of_le this k6.size) (by rw [e]; exact Nat.lt_irrefl _)
      · rcases List.mem_append.mp hq with hq | hq
        · exact hM8.2 q hq
        · cases List.mem_singleton.mp hq
          exact ⟨hC6, (hs8.2 _ (Nat.ne_of_gt (Nat.lt_trans hDltC hC6))).trans ho7, vs, ⟨rfl, _, rfl⟩, fun Y h => flat_ints l _ _ _ il6 _ _⟩
  exact codeAny_compStart_list loop (ItS.self (s := { s2 with heap := h3, toks := tk3 }) its3 loop |> fun h => wpAny_mono h (fun _ _ q => q) fun _ _ z => z.elim)
end
end Mine
end
section -- S47
open PySem PySem.W PyProof.Rows PySem.Calls PySem.Spec
set_option Elab.async false
set_option maxRecDepth 100000
set_option linter.unusedVariables false
set_option autoImplicit false
set_option pp.maxSteps 600
namespace Mine
section
variable {W : Wd} {f : Fd} {ρ ρ' : List Vr} {μ : Mu} {n : Nat}

/-- x[ie][je] = ve, x a list of lists that all lie apart -/
theorem nestSet {x : Str} {px p1 p2 pos : Pos} {ie je ve : Expr} {i k j : Nat} {ll : List (List Int)} {l : List Int} {b : Int} (V : W.Ok) (hx : f.nm[i]? = some x) (hb : ρ[i]? = some (Vr.box (NestB ll))) (hie : Ev W n f ρ ie (.int k)) (hje : Ev W n f ρ je (.int j)) (hve : Ev W n f ρ ve (.int b))
    (hk : ll[k]? = some l) (hj : j < l.length) (hl1 : l.length ≤ 1000) (hl2 : ll.length ≤ 1000) (hd : (x == ("__debug__" : Str)) = false := by decide) (hd2 : (x == ("__classdict__" : Str)) = false := by decide)
    (hss : ∀ o i, subscripted ie false o i = operate [o, i] (getItem o i) := by intro _ _; with_unfolding_all rfl)
    (hs : swapsWith ve (some (.Subscript (.Subscript (.Name x px) ie p1) je p2)) pos.line f.env = pure false := by rfl) :
    Ex W n f ρ (.Assign [.Subscript (.Subscript (.Name x px) ie p1) je p2] ve pos) (ρ.set i (.box (NestB (ll.set k (l.set j b))))) := by
  intro A r s μ I F
  refine wpAny_Assign_Subscript (hs := hs) (hve.use r I F fun v s1 k1 I1 F1 i1 => ?_)
  obtain ⟨w, L, H, bx, hL⟩ := F1.box i x _ hx hb
  obtain ⟨P, oP, M, rfl, rfl, lP, hML, hnd, hM⟩ := bx
  have hkl : k < ll.length := (List.getElem?_eq_some_iff.mp hk).1
  obtain ⟨q, hq⟩ : ∃ q, M[k]? = some q := ⟨_, List.getElem?_eq_getElem (by rw [hML]; exact hkl)⟩
  obtain ⟨vs, lq, il⟩ := hM k q l hq hk
  have hPm : (P, oP) ∈ (P, oP) :: M := .head _
  have hqm : q ∈ (P, oP) :: M := .tail _ (List.mem_of_getElem? hq)
  have goal : ∀ {Q : Value → Shared → Prop}, Q (.ref P) s1 → wpAny W.M A (eval (.Name x px) f.env) Q Fz s1 := fun {Q} q => by
    refine wpAny_Name ?_ hd
    rcases H with ⟨a, m, hn, e⟩ | ⟨a | a, c, l, hc⟩
    · exact wpAny_loadName_local F.kind a hn e q
    · exact wpAny_loadName_cell F.kind a l hc q
    · exact wpAny_loadName_free F.kind a l hc q hd2
  refine Subscript_ (goal (hie.use r I1 F1 fun iv s2 k2 I2 F2 i2 => ?_))
  obtain ⟨t, rfl⟩ := D.Is.int_iff.mp i2
  obtain ⟨zP, eP, gP, cP, dP'⟩ := hL _ hPm
  obtain ⟨zq, eq', gq, cq, dq⟩ := hL _ hqm
  have lP2 : s2.heap.IsList P (M.map fun q => Value.ref q.1).toArray := lP.isList (k2.at I1 gP cP fun z => z)
  refine subTail lP2.typeIs list_getitem_lookup (wpAny_getItem_list lP2 (by omega) (by omega) (x := .ref q.1) (by simp [hq]) ?_) (hss _ _)
  refine hje.use r I2 F2 fun jv s3 k3 I3 F3 i3 => ?_
  obtain ⟨t', rfl⟩ := D.Is.int_iff.mp i3
  have k23 := k2.trans0 k3
  have gq3 := k23.at I1 gq cq fun z => z
  have hvl := (il No s.heap).length
  rw [List.length_map] at hvl
  refine wpAny_setItem_list (lq.isList gq3) (by omega) (by omega) (by simp [hvl]; omega) fun h' hl' hsb => ?_
  have hB : ∀ b, b = q.1 → W.B ≤ b := fun b e => by rw [e]; exact F3.highZ _ zq
  have kq : Kq (fun b => b = q.1) s3.heap h' := Kq.one hsb gq3 (noCode cq)
  have k4 : Kp (fun b => b = q.1) s3 { s3 with heap := h' } := kq.kp (tk := s3.toks) (V.high hB)
  obtain ⟨o', ho', hc', c', hd'⟩ := hl'
  have k13 := (k1.trans0 k23)
  have H3 : Has f.env s3.heap x (.ref P) := H.keep I1 fun b o e t => k23.keep b o e (fun z => z) t
  have hL3 : BoxAt μ s3.heap i ((P, oP) :: M) := hL.keep fun b o z e c d => k23.at I1 e c fun z => z
  have hmap : (M.set k (q.1, o')).map (·.1) = M.map (·.1) := by
    rw [List.map_set]
    refine List.ext_getElem? fun a => ?_
    rw [List.getElem?_set]
    split
    · rename_i h; subst h
      split
      · rw [List.getElem?_map, hq]; rfl
      · rename_i h; rw [List.getElem?_eq_none (by simpa using h)]
    · rfl
  have hPq : P ≠ q.1 := fun e => (List.nodup_cons.mp hnd).1 (by rw [e]; exact List.mem_map_of_mem (f := (·.1)) (List.mem_of_getElem? hq))
  refine ⟨rfl, μ, ⟨?_, I3.step V kq hB, F3.boxSet (a := q.1) (L' := (P, oP) :: M.set k (q.1, o')) hx hb H3 hL3 ⟨q.2, hqm⟩ hsb ⟨P, oP, M.set k (q.1, o'), rfl, rfl, ?_, by simp [hML], by rw [hmap]; exact hnd, fun a q' l' ha hla => ?_⟩ (fun q' hq' => ?_), fun _ z => .inl z⟩⟩
  · exact k13.up.trans k4 fun b e => .inl (by rw [show b = q.1 from e]; exact zq)
  · have : (M.set k (q.1, o')).map (fun q => Value.ref q.1) = M.map fun q => Value.ref q.1 := by
      have := congrArg (List.map Value.ref) hmap
      rw [List.map_map, List.map_map] at this
      exact this
    rw [this]; exact lP
  · by_cases hak : a = k
    · subst hak
      rw [List.getElem?_set_self (by rw [hML]; exact hkl)] at ha
      rw [List.getElem?_set_self hkl] at hla
      cases ha; cases hla
      refine ⟨vs.set j v, ⟨hc', c', by simpa using hd'⟩, ?_⟩
      rw [List.map_set]
      exact D.IsL.setF il fun Y h => by simpa only [D.Is] using i1
    · rw [List.getElem?_set_ne (Ne.symm hak)] at ha hla
      exact hM a q' l' ha hla
  · rcases List.mem_cons.mp hq' with rfl | hq'
    · exact ⟨fun _ => .head _, fun e => absurd e hPq⟩
    · obtain ⟨a, ha⟩ := List.mem_iff_getElem?.mp hq'
      by_cases hak : a = k
      · subst hak
        rw [List.getElem?_set_self (by rw [hML]; exact hkl)] at ha
        cases ha
        exact ⟨fun q => absurd rfl q, fun _ => ⟨ho', hc', _, _, hd'⟩⟩
      · rw [List.getElem?_set_ne (Ne.symm hak)] at ha
        refine ⟨fun _ => .tail _ (List.mem_of_getElem? ha), fun e => ?_⟩
        have h1 : (M.map (·.1))[a]? = some q.1 := by rw [List.getElem?_map, ha, ← e]; rfl
        have h2 : (M.map (·.1))[k]? = some q.1 := by rw [List.getElem?_map, hq]; rfl
        exact absurd (nodup_idx (List.nodup_cons.mp hnd).2 h1 h2) hak

noncomputable def nestD (ll : List (List Int)) : D := .lst (ll.map fun l => .lst (l.map D.int))
theorem NestB.is {ll : List (List Int)} {h : Heap} : ∀ Y v L, NestB ll v L → (∀ q ∈ L, Av Y q.1 ∧ h.get? q.1 = some q.2) → (nestD ll).Is Y h v := by
  intro Y v L ⟨P, oP, M, hv, hL, lP, hML, hnd, hM⟩ hA
  subst hL
  obtain ⟨av, g⟩ := hA _ (.head _)
  simp only [nestD, D.Is]
  refine ⟨P, _, hv, av, lP.isList g, ?_⟩
  have : ∀ (M : List (Addr × Obj)) (ll : List (List Int)), M.length = ll.length → (∀ q ∈ M, Av Y q.1 ∧ h.get? q.1 = some q.2) → (∀ (j : Nat) q l, M[j]? = some q → ll[j]? = some l → ∃ vs, lobj vs q.2 ∧ ∀ Y h, D.IsL Y h (l.map D.int) vs) →
      D.IsL Y h (ll.map fun l => .lst (l.map D.int)) (M.map fun q => Value.ref q.1) := by
    intro M
    induction M with
    | nil => intro ll hl _ _; cases ll with | nil => exact D.IsL.nil | cons a b => simp at hl
    | cons q M ih =>
      intro ll hl hA hM
      cases ll with
      | nil => simp at hl
      | cons l ll =>
        refine D.IsL.cons ?_ (ih ll (by simpa using hl) (fun q hq => hA q (.tail _ hq)) fun j q l hq hl => hM (j + 1) q l (by simpa using hq) (by simpa using hl))
        obtain ⟨vs, lo, il⟩ := hM 0 q l rfl rfl
        obtain ⟨av, g⟩ := hA q (.head _)
        simp only [D.Is]
        exact ⟨q.1, vs, rfl, av, lo.isList g, il _ _⟩
  exact this M ll hML (fun q hq => hA q (.tail _ hq)) hM
theorem Rt.freezeN {i : Nat} {x : Str} {ll : List (List Int)} {sts : List Stmt} {d : D} (hb : ρ[i]? = some (Vr.box (NestB ll))) (hx : f.nm[i]? = some x) (hX : ∀ b, f.X b → b < f.lo) (h : Rt W n f (ρ.set i (.val (nestD ll))) sts d) : Rt W n f ρ sts d := by
  intro A r s μ I F
  refine wpAny_mono (h A r s _ I (F.freezeB hb ⟨x, hx⟩ hX I NestB.is)) (fun fl s' p => ?_) fun _ _ z => z
  obtain ⟨v, rfl, k, r⟩ := p
  exact ⟨v, rfl, k.weaken fun b z => .inl z.1, r⟩
end
end Mine
end
section -- S48
open PySem PySem.W PyProof.Rows PySem.Calls PySem.Spec
set_option Elab.async false
set_option maxRecDepth 100000
set_option linter.unusedVariables false
set_option autoImplicit false
set_option pp.maxSteps 600
namespace Mine
section
variable {W : Wd} {f : Fd} {ρ ρ' : List Vr} {μ : Mu} {n : Nat}

theorem rng_len : ∀ {k : Nat} {a : Int}, (rng a k).length = k
  | 0, _ => rfl
  | k + 1, a => by rw [rng, List.length_cons, rng_len]
theorem rng_get : ∀ {k : Nat} {a : Int} {i : Nat} {d : D}, (rng a k)[i]? = some d → d = .int (a + i) ∧ i < k
  | 0, _, _, _, h => by simp [rng] at h
  | k + 1, a, 0, d, h => by simp [rng] at h; exact ⟨by rw [← h]; simp, by omega⟩
  | k + 1, a, i + 1, d, h => by
    obtain ⟨h1, h2⟩ := rng_get (k := k) (a := a + 1) (i := i) (by simpa [rng] using h)
    exact ⟨by rw [h1]; congr 1; omega, by omega⟩
theorem rng_get0 {k i : Nat} {d : D} (h : (rng 0 k)[i]? = some d) : d = nat i ∧ i < k := by
  obtain ⟨h1, h2⟩ := rng_get h
  exact ⟨by rw [h1]; simp, h2⟩
theorem anyInt (l : List Int) (a : Int) : ((dPs (l.map D.int)).any fun y => PyData.eqv y (dP (.int a))) = l.any fun y => y == a := by
  induction l with
  | nil => rfl
  | cons b r ih => simp only [List.map_cons, dPs, List.any_cons, ih]; rfl
theorem okInts (k : Nat) : ∀ (l : List Int), okDs k (l.map D.int) = true
  | [] => by simp [okDs]
  | a :: r => by simp [okDs, okD, okInts k r]
-- _law_pressed
noncomputable abbrev LL := List (List Int)
noncomputable def pIn (st en : List Int) (row rank : Nat) (k : Nat) (a : Bool × LL) : Bool × LL :=
  let l1 := if st.getD k 0 = (row : Int) then a.2.set k ((a.2.getD k []).set 0 (rank : Int)) else a.2
  if en.getD k 0 = (row : Int) + 1 then (true, l1.set k ((l1.getD k []).set 1 (rank : Int))) else (a.1, l1)
noncomputable def pInAt (st en : List Int) (row rank : Nat) (a : Bool × LL) : Nat → Bool × LL
  | 0 => a
  | k + 1 => pIn st en row rank k (pInAt st en row rank a k)
noncomputable def pTop (st : List Int) (row : Nat) (a : Nat × Bool) : Nat × Bool := if a.2 && st.any (fun y => y == (row : Int)) then (a.1 + 1, false) else a
noncomputable def pRow (st en : List Int) (row : Nat) (a : Nat × Bool × LL) : Nat × Bool × LL :=
  let t := pTop st row (a.1, a.2.1)
  (t.1, pInAt st en row t.1 (t.2, a.2.2) 5)
noncomputable def pAt (st en : List Int) : Nat → Nat × Bool × LL
  | 0 => (0, false, List.replicate 5 [0, 0])
  | r + 1 => pRow st en r (pAt st en r)
noncomputable def Sh (ll : LL) : Prop := ll.length = 5 ∧ ∀ l ∈ ll, l.length = 2
theorem Sh.set {ll : LL} (h : Sh ll) {k : Nat} {l : List Int} (hl : l.length = 2) : Sh (ll.set k l) :=
  ⟨by rw [List.length_set]; exact h.1, fun x hx => (List.mem_or_eq_of_mem_set hx).elim (h.2 x) fun e => e ▸ hl⟩
theorem Sh.get {ll : LL} (h : Sh ll) {k : Nat} (hk : k < 5) : ll[k]? = some (ll.getD k []) ∧ (ll.getD k []).length = 2 := by
  have hl : k < ll.length := by rw [h.1]; exact hk
  have e : ll.getD k [] = ll[k] := by rw [List.getD_eq_getElem?_getD, List.getElem?_eq_getElem hl]; rfl
  exact ⟨by rw [e, List.getElem?_eq_getElem hl], by rw [e]; exact h.2 _ (List.getElem_mem hl)⟩
theorem Sh.pIn1 {ll : LL} (h : Sh ll) {st : List Int} {row rank k : Nat} (hk : k < 5) : Sh (if st.getD k 0 = (row : Int) then ll.set k ((ll.getD k []).set 0 (rank : Int)) else ll) := by
  split
  · exact h.set (by rw [List.length_set]; exact (h.get hk).2)
  · exact h
theorem Sh.pIn {st en : List Int} {row rank k : Nat} {a : Bool × LL} (h : Sh a.2) (hk : k < 5) : Sh (pIn st en row rank k a).2 := by
  unfold Mine.pIn
  have h1 := h.pIn1 (st := st) (row := row) (rank := rank) hk
  dsimp only
  split
  · exact h1.set (by rw [List.length_set]; exact (h1.get hk).2)
  · exact h1
theorem Sh.pInAt {st en : List Int} {row rank : Nat} {a : Bool × LL} (h : Sh a.2) : ∀ {k : Nat}, k ≤ 5 → Sh (pInAt st en row rank a k).2
  | 0, _ => h
  | k + 1, hk => Sh.pIn (Sh.pInAt h (Nat.le_of_lt hk)) hk
theorem Sh.pRow {st en : List Int} {row : Nat} {a : Nat × Bool × LL} (h : Sh a.2.2) : Sh (pRow st en row a).2.2 := by
  show Sh (Mine.pInAt st en row (pTop st row (a.1, a.2.1)).1 ((pTop st row (a.1, a.2.1)).2, a.2.2) 5).2
  generalize (pTop st row (a.1, a.2.1)).1 = rk
  exact Sh.pInAt (st := st) (en := en) (row := row) (rank := rk) (a := ((pTop st row (a.1, a.2.1)).2, a.2.2)) h (k := 5) (Nat.le_refl 5)
theorem Sh.pAt {st en : List Int} (r : Nat) : Sh (Mine.pAt st en r).2.2 := by
  induction r with
  | zero => exact ⟨rfl, fun l hl => by rw [List.eq_of_mem_replicate (show l ∈ List.replicate 5 [0, 0] from hl)]; rfl⟩
  | succ r ih => exact Sh.pRow ih
set_option maxHeartbeats 4000000 in
theorem c_pressed {st en : List Int} (V : W.Ok) (hs : st.length = 5) (he : en.length = 5) : Cl W 6 (.ref 200) [.lst (st.map D.int), .lst (en.map D.int)] (nestD (pAt st en 8).2.2) := by
  refine Cl.fnX (nm := [S "starts", S "stops", S "rank", S "ended", S "k", S "pressed", S "row"]) (k := 5) V (fnAt rfl rfl) (cdAt rfl rfl rfl rfl) rfl rfl rfl rfl ?_ (by decide) (by simp) (by decide +kernel) fun X L hXL => ?_
  · intro vs h
    rcases vs with _ | ⟨v0, _ | ⟨v1, _ | _⟩⟩ <;> simp at h
    rfl
  refine Rt.cons (Ex.assign 2 V Ev.int rfl (.inl rfl)) ?_
  refine Rt.cons (Ex.assign 3 V Ev.boolC rfl (.inl rfl)) ?_
  refine Rt.cons (exNest (iy := 5) (ds := rng 0 5) V [0, 0] (It.range (k := 5) V (Ev.bname (v := .type "range") V rfl (by kernel_rfl) (by decide +kernel)) Ev.int) rfl (fun X C L => EvL.cons Ev.int (EvL.cons Ev.int EvL.nil)) rfl (by decide) (by rw [rng_len]; decide) (hy := rfl) (hyk := rfl) (hiy := by simp [vals])) ?_
  refine Rt.cons (Ex.forIn (ds := rng 0 8) false V (fun r => [.val (.lst (st.map D.int)), .val (.lst (en.map D.int)), .val (nat (pAt st en r).1), .val (D.bool (pAt st en r).2.1), .un, .box (NestB (pAt st en r).2.2), .un])
    (It.range (k := 8) V (Ev.bname (v := .type "range") V rfl (by kernel_rfl) (by decide +kernel)) Ev.int) ?_ ?_) ?_
  · intro d hd
    exact .inl ⟨rfl, _, _, rfl⟩
  · intro r d hd X'
    obtain ⟨rfl, hr⟩ := rng_get0 hd
    refine ⟨_, Asn.name V 6 rfl (.inl rfl), ?_⟩
    have hsh := Sh.pAt (st := st) (en := en) r
    show Exs W _ _ _ _ [.val (.lst (st.map D.int)), .val (.lst (en.map D.int)), .val (nat (pRow st en r (pAt st en r)).1), .val (D.bool (pRow st en r (pAt st en r)).2.1), .un, .box (NestB (pRow st en r (pAt st en r)).2.2), .un]
    generalize pAt st en r = a0 at hsh
    obtain ⟨rk, ed, ll⟩ := a0
    dsimp only [pRow]
    refine Exs.cons (Ex.ife (b := ed && st.any fun y => y == (r : Int)) (ρ' := [.val (.lst (st.map D.int)), .val (.lst (en.map D.int)), .val (nat (pTop st r (rk, ed)).1), .val (D.bool (pTop st r (rk, ed)).2), .un, .box (NestB ll), .val (nat r)])
      (Ts.and (Ts.ev (Ev.name 3 rfl rfl) Fb.bool) (fun _ => Ts.cmp (Ev.name 6 rfl rfl) (Ev.name 0 rfl rfl) (by
        have := F2.inL (W := W) (n := 5) (a := nat r) (l := st.map D.int) rfl (okInts 7 st)
        rw [anyInt] at this; exact this))) (fun hb => ?_) (fun hb => ?_)) ?_
    · rw [pTop, if_pos hb]
      exact Exs.cons (Ex.aug 2 V Ev.int rfl rfl F2.iaddI (.inl rfl)) (Ex.one' (Ex.assign 3 V Ev.boolC rfl (.inl rfl)))
    · rw [pTop, if_neg (by rw [hb]; simp)]
      exact Exs.nil
    generalize pTop st r (rk, ed) = t
    obtain ⟨rk, ed⟩ := t
    dsimp only
    refine (Ex.one' (Ex.forIn (ds := rng 0 5) false V (fun k => [.val (.lst (st.map D.int)), .val (.lst (en.map D.int)), .val (nat rk), .val (D.bool (pInAt st en r rk (ed, ll) k).1), .un, .box (NestB (pInAt st en r rk (ed, ll) k).2), .val (nat r)])
      (It.range (k := 5) V (Ev.bname (v := .type "range") V rfl (by kernel_rfl) (by decide +kernel)) Ev.int) ?_ ?_)).fgt ?_
    · intro d hd
      exact .inl ⟨rfl, _, _, rfl⟩
    · intro k d hd X''
      obtain ⟨rfl, hk⟩ := rng_get0 hd
      refine ⟨_, Asn.name V 4 rfl (.inl rfl), ?_⟩
      have hs1 : Sh (pInAt st en r rk (ed, ll) k).2 := Sh.pInAt (a := (ed, ll)) hsh (Nat.le_of_lt hk)
      show Exs W _ _ _ _ [.val (.lst (st.map D.int)), .val (.lst (en.map D.int)), .val (nat rk), .val (D.bool (pIn st en r rk k (pInAt st en r rk (ed, ll) k)).1), .un, .box (NestB (pIn st en r rk k (pInAt st en r rk (ed, ll) k)).2), .val (nat r)]
      generalize pInAt st en r rk (ed, ll) k = a at hs1
      obtain ⟨e1, l1⟩ := a
      dsimp only at hs1 ⊢
      have hs2 := hs1.pIn1 (st := st) (row := r) (rank := rk) hk
      have hg1 := hs1.get hk
      have hg2 := hs2.get hk
      refine Exs.cons (Ex.ife (b := st.getD k 0 == (r : Int)) (ρ' := [.val (.lst (st.map D.int)), .val (.lst (en.map D.int)), .val (nat rk), .val (D.bool e1), .val (nat k), .box (NestB (if st.getD k 0 = (r : Int) then l1.set k ((l1.getD k []).set 0 (rk : Int)) else l1)), .val (nat r)])
        (Ts.cmp (Ev.itemL (Ev.name 0 rfl rfl) (Ev.name 4 rfl rfl) (getMap (d := 0) (by omega))) (Ev.name 6 rfl rfl) F2.eqI) (fun hb => ?_) (fun hb => ?_)) ?_
      · rw [if_pos (by simpa using hb)]
        exact Ex.one' (nestSet (i := 5) (k := k) (j := 0) V rfl rfl (Ev.name 4 rfl rfl) Ev.int (Ev.name 2 rfl rfl) hg1.1 (by rw [hg1.2]; decide) (by rw [hg1.2]; decide) (by rw [hs1.1]; decide))
      · rw [if_neg (by simpa using hb)]
        exact Exs.nil
      unfold pIn
      dsimp only
      generalize (if st.getD k 0 = (r : Int) then l1.set k ((l1.getD k []).set 0 (rk : Int)) else l1) = l2 at hs2 hg2 ⊢
      refine (Ex.one' (Ex.ife (b := en.getD k 0 == (r : Int) + 1) (ρ' := [.val (.lst (st.map D.int)), .val (.lst (en.map D.int)), .val (nat rk), .val (D.bool (if en.getD k 0 = (r : Int) + 1 then (true, l2.set k ((l2.getD k []).set 1 (rk : Int))) else (e1, l2)).1), .val (nat k), .box (NestB (if en.getD k 0 = (r : Int) + 1 then (true, l2.set k ((l2.getD k []).set 1 (rk : Int))) else (e1, l2)).2), .val (nat r)])
        (Ts.cmp (Ev.itemL (Ev.name 1 rfl rfl) (Ev.name 4 rfl rfl) (getMap (d := 0) (by omega))) (Ev.bin (Ev.name 6 rfl rfl) Ev.int F2.addI) F2.eqI) (fun hb => ?_) (fun hb => ?_))).fgt ⟨.inr rfl, .inr rfl, .inr rfl, .inr rfl, .inl rfl, .inr rfl, .inr rfl, trivial⟩
      · rw [if_pos (by simpa using hb)]
        exact Exs.cons (nestSet (i := 5) (k := k) (j := 1) V rfl rfl (Ev.name 4 rfl rfl) Ev.int (Ev.name 2 rfl rfl) hg2.1 (by rw [hg2.2]; decide) (by rw [hg2.2]; decide) (by rw [hs2.1]; decide)) (Ex.one' (Ex.assign 3 V Ev.boolC rfl (.inl rfl)))
      · rw [if_neg (by simpa using hb)]
        exact Exs.nil
    · rw [rng_len]
      exact ⟨.inr rfl, .inr rfl, .inr rfl, .inr rfl, .inl rfl, .inr rfl, .inl rfl, trivial⟩
  · rw [rng_len]
    exact Rt.freezeN (i := 5) rfl rfl hXL (Rt.ret (Ev.name 5 rfl rfl))
end
end Mine
end
section -- S49
open PySem PySem.W PyProof.Rows PySem.Calls PySem.Spec
set_option Elab.async false
set_option maxRecDepth 100000
set_option linter.unusedVariables false
set_option autoImplicit false
set_option pp.maxSteps 600
namespace Mine
section
variable {W : Wd} {f : Fd} {ρ ρ' : List Vr} {μ : Mu} {n : Nat}

theorem compTurn_out (elt t1 i1 t2 i2 : Expr) (ifs2 : List Expr) (scope : Scope) (pos : Pos) (it acc : Value) (env : Env) :
    compTurn (.ListComp elt [⟨t1, i1, [], 0⟩, ⟨t2, i2, ifs2, 0⟩] scope pos) 0 it acc env = (do
      standAt i1.pos
      match ← pyNext it with
      | none => pure (.done .next)
      | some v =>
        letOwnedTupleGo t1 it v
        assign t1 env v
        let x ← eval i2 env
        standAt i2.pos
        let x ← foldedSetIterable i2 env x
        let _ ← runOwn (.compStart (.ListComp elt [⟨t1, i1, [], 0⟩, ⟨t2, i2, ifs2, 0⟩] scope pos) 1 (← holding [x] (pyIter x)) acc env) env
        again (.compLoop (.ListComp elt [⟨t1, i1, [], 0⟩, ⟨t2, i2, ifs2, 0⟩] scope pos) 0 it acc env)) := by rfl
theorem compTurn_in (elt t1 i1 t2 i2 : Expr) (ifs2 : List Expr) (scope : Scope) (pos : Pos) (it acc : Value) (env : Env) :
    compTurn (.ListComp elt [⟨t1, i1, [], 0⟩, ⟨t2, i2, ifs2, 0⟩] scope pos) 1 it acc env = (do
      standAt i2.pos
      match ← pyNext it with
      | none => pure (.done .next)
      | some v =>
        letOwnedTupleGo t2 it v
        assign t2 env v
        let mut ok := true
        for c in ifs2 do
          if ok then ok ← isTrue c env (eval c env)
        if ok then
          (do let _ ← call (.builtin "list.append") [acc, ← eval elt env])
        again (.compLoop (.ListComp elt [⟨t1, i1, [], 0⟩, ⟨t2, i2, ifs2, 0⟩] scope pos) 1 it acc env)) := by rfl

theorem loopIn {prog : Program} {w : World} {A : Around} {R : Result → Shared → Prop} {s : Shared} {elt t1 i1 target iter : Expr} {ifs : List Expr} {scope : Scope} {pos : Pos} {it acc : Value} {env : Env} (I : Nat → Shared → Prop)
    (turn : ∀ n s, I n s → wpAny (model prog w) A (pyNext it) (fun r s₁ => match r with
      | none => R (.ok .next) s₁
      | some v => wpAny (model prog w) A (letOwnedTupleGo target it v) (fun _ s₁' => wpAny (model prog w) A (assign target env v) (fun _ s₂ =>
          wpAny (model prog w) A (tests ifs env) (fun ok s₃ =>
            if ok = true then wpAny (model prog w) A (eval elt env) (fun x s₄ =>
              wpAny (model prog w) A (call (.builtin "list.append") [acc, x]) (fun _ s₅ => ∃ m, m < n ∧ I m s₅) Fz s₄) Fz s₃
            else ∃ m, m < n ∧ I m s₃) Fz s₂) Fz s₁') Fz s₁) Fz s)
    (n : Nat) (h : I n s) :
    codeAny (model prog w) A (.compLoop (.ListComp elt [⟨t1, i1, [], 0⟩, ⟨target, iter, ifs, 0⟩] scope pos) 1 it acc env) R s := by
  refine codeAny_loop rfl I (fun n s hI => ?_) n h
  show wpAny _ A ((compTurn (.ListComp elt [⟨t1, i1, [], 0⟩, ⟨target, iter, ifs, 0⟩] scope pos) 1 it acc env).onRaise (fun x => do noteFrame x env; theTreesLotGoes x)) _ _ s
  refine wpAny_noted ?_
  rw [compTurn_in]
  refine wpAny_bind (wpAny_standAt (wpAny_bind (wpAny_mono (turn n s hI) (fun r s₁ h₁ => ?_) fun _ _ h' => h'.elim)))
  cases r with
  | none => exact wpAny_pure h₁
  | some v =>
    refine wpAny_bind (wpAny_mono h₁ (fun _ s1' h₁ => ?_) fun _ _ h' => h'.elim)
    refine wpAny_bind (wpAny_mono h₁ (fun _ s₂ h₂ => wpAny_bind (wpAny_mono h₂ (fun ok s₃ h₃ => ?_) fun _ _ h' => h'.elim)) fun _ _ h' => h'.elim)
    cases ok with
    | false => exact wpAny_pure ⟨rfl, h₃⟩
    | true =>
      exact wpAny_bind (wpAny_bind (wpAny_mono h₃ (fun x s₄ h₄ => wpAny_bind (wpAny_mono h₄ (fun _ s₅ h₅ => wpAny_pure (wpAny_pure ⟨rfl, h₅⟩)) fun _ _ h' => h'.elim)) fun _ _ h' => h'.elim))
theorem loopOut {prog : Program} {w : World} {A : Around} {R : Result → Shared → Prop} {s : Shared} {elt t1 i1 t2 i2 : Expr} {ifs : List Expr} {scope : Scope} {pos : Pos} {it acc : Value} {env : Env} (I : Nat → Shared → Prop)
    (turn : ∀ n s, I n s → wpAny (model prog w) A (pyNext it) (fun r s₁ => match r with
      | none => R (.ok .next) s₁
      | some v => wpAny (model prog w) A (letOwnedTupleGo t1 it v) (fun _ s₁' => wpAny (model prog w) A (assign t1 env v) (fun _ s₂ =>
          wpAny (model prog w) A (eval i2 env) (fun x s₃ => wpAny (model prog w) A (pyIter x) (fun it2 s₄ =>
            codeAny (model prog w) A (.compStart (.ListComp elt [⟨t1, i1, [], 0⟩, ⟨t2, i2, ifs, 0⟩] scope pos) 1 it2 acc env) (fun r s₅ => r = .ok .next ∧ ∃ m, m < n ∧ I m s₅) s₄) Fz s₃) Fz s₂) Fz s₁') Fz s₁) Fz s)
    (n : Nat) (h : I n s) (hs : ∀ x, foldedSetIterable i2 env x = pure x) :
    codeAny (model prog w) A (.compLoop (.ListComp elt [⟨t1, i1, [], 0⟩, ⟨t2, i2, ifs, 0⟩] scope pos) 0 it acc env) R s := by
  refine codeAny_loop rfl I (fun n s hI => ?_) n h
  show wpAny _ A ((compTurn (.ListComp elt [⟨t1, i1, [], 0⟩, ⟨t2, i2, ifs, 0⟩] scope pos) 0 it acc env).onRaise (fun x => do noteFrame x env; theTreesLotGoes x)) _ _ s
  refine wpAny_noted ?_
  rw [compTurn_out]
  refine wpAny_bind (wpAny_standAt (wpAny_bind (wpAny_mono (turn n s hI) (fun r s₁ h₁ => ?_) fun _ _ h' => h'.elim)))
  cases r with
  | none => exact wpAny_pure h₁
  | some v =>
    refine wpAny_bind (wpAny_mono h₁ (fun _ s1' h₁ => ?_) fun _ _ h' => h'.elim)
    refine wpAny_bind (wpAny_mono h₁ (fun _ s₂ h₂ => wpAny_bind (wpAny_mono h₂ (fun x s₃ h₃ => ?_) fun _ _ h' => h'.elim)) fun _ _ h' => h'.elim)
    refine wpAny_bind (wpAny_standAt (wpAny_bind (wpAny_of_eq (hs x) (wpAny_bind (wpAny_holding (wpAny_mono h₃ (fun it2 s₄ h₄ => ?_) fun _ _ h' => h'.elim))))))
    refine wpAny_bind (wpAny_runOwn (codeAny_mono h₄ fun r s₅ h₅ => ?_))
    obtain ⟨rfl, h₅⟩ := h₅
    exact wpAny_pure ⟨rfl, h₅⟩
theorem start1 {prog : Program} {w : World} {A : Around} {R : Result → Shared → Prop} {s : Shared} {elt t1 i1 t2 i2 : Expr} {ifs : List Expr} {scope : Scope} {pos : Pos} {it acc : Value} {env : Env}
    (h0 : codeAny (model prog w) A (.compLoop (.ListComp elt [⟨t1, i1, [], 0⟩, ⟨t2, i2, ifs, 0⟩] scope pos) 1 it acc env) R s)
    (h : wpAny (model prog w) A (pyIter it) (fun it' s' => codeAny (model prog w) A (.compLoop (.ListComp elt [⟨t1, i1, [], 0⟩, ⟨t2, i2, ifs, 0⟩] scope pos) 1 it' acc env) R s')
      (notedBy (model prog w) A env fun x s' => R (.error x) s') s) :
    codeAny (model prog w) A (.compStart (.ListComp elt [⟨t1, i1, [], 0⟩, ⟨t2, i2, ifs, 0⟩] scope pos) 1 it acc env) R s := by
  refine codeAny_of_tree ?_
  show wpAny _ _ ((compStart (.ListComp elt [⟨t1, i1, [], 0⟩, ⟨t2, i2, ifs, 0⟩] scope pos) 1 it acc env).onRaise (fun x => do noteFrame x env; standAt theWindowsPlace)) _ _ s
  refine wpAny_notedAt ?_
  unfold compStart
  show wpAny _ _ (ask >>= _) _ _ s
  refine wpAny_bind (wpAny_askSetting (wpAny_ite ?_))
  split
  · first
      | exact wpAny_bind (wpAny_pure (wpAny_pure (And.intro rfl h0)))
      | exact wpAny_pure (And.intro rfl h0)
  · refine wpAny_bind (wpAny_rule ?_)
    show wpAny _ _ (standAt i2.pos >>= _) _ _ s
    exact wpAny_bind (wpAny_standAt (wpAny_bind (wpAny_mono h (fun it' s' h' => wpAny_pure (And.intro rfl h')) fun _ _ x => x)))
end
end Mine
end
section -- S50
open PySem PySem.W PyProof.Rows PySem.Calls PySem.Spec
set_option Elab.async false
set_option maxRecDepth 100000
set_option linter.unusedVariables false
set_option autoImplicit false
set_option pp.maxSteps 600
namespace Mine
section
variable {W : Wd} {f : Fd} {ρ ρ' : List Vr} {μ : Mu} {n : Nat}

/-- the inner loop of a comprehension of two clauses -/
theorem inLoop2 {A : Around} {s : Shared} {elt t1 i1 i2 c : Expr} {ty : Str} {pty : Pos} {scope : Scope} {pos : Pos} {it : Value} {Dl : Addr} {Zi : Addr → Prop} {ds acc0 : List D} {ys0 : List Value} {j : Nat} (V : W.Ok) (p : D → Bool) (g : D → D) (r : Rm n A)
    (I : Inv W s.heap) (F : Fm W f ρ μ s.heap) (its : ItS (Yo f μ) Zi false it ds s.heap) (hZX : ∀ b, Zi b → f.X b) (hZm : ∀ b, Zi b → ¬ μ.Z b) (hDX : f.X Dl) (hDZ : ¬ Zi Dl) (hDm : ¬ μ.Z Dl)
    (hl : s.heap.IsList Dl (List.toArray ys0)) (il0 : D.IsL (Yo f μ) s.heap acc0 ys0) (hx : f.nm[j]? = some ty) (hk : f.env.kindOf ty = some .local) (hun : ρ[j]? = some .un)
    (hturn : ∀ d ∈ ds, Ts W n f (ρ.set j (.val d)) c (p d) ∧ (p d = true → Ev W n f (ρ.set j (.val d)) elt (g d))) (hsz : acc0.length + ds.length ≤ 1000) :
    codeAny W.M A (.compLoop (.ListComp elt [⟨t1, i1, [], 0⟩, ⟨.Name ty pty, i2, [c], 0⟩] scope pos) 1 it (.ref Dl) f.env)
      (fun r s' => r = .ok .next ∧ Inv W s'.heap ∧ Fm W f ρ μ s'.heap ∧ Kp (fun b => μ.Z b ∨ Zi b ∨ b = Dl) s s' ∧ ∃ ys, s'.heap.IsList Dl (List.toArray ys) ∧ D.IsL (Yo f μ) s'.heap (acc0 ++ (ds.filter p).map g) ys) s := by
  refine loopIn (fun k s' => ∃ i ys, k = ds.length - i ∧ i ≤ ds.length ∧ Inv W s'.heap ∧ Fm W f ρ μ s'.heap ∧ ItS (Yo f μ) Zi false it (ds.drop i) s'.heap ∧ Kp (fun b => μ.Z b ∨ Zi b ∨ b = Dl) s s' ∧
      s'.heap.IsList Dl (List.toArray ys) ∧ D.IsL (Yo f μ) s'.heap (acc0 ++ ((ds.take i).filter p).map g) ys) ?_ ds.length ⟨0, ys0, by simp, by simp, I, F, by simpa using its, Kp.refl _ _, hl, by simpa using il0⟩
  rintro k s' ⟨i, ys, rfl, hle, I', F', its', k', hl', il'⟩
  have tabD : ¬ isTab Dl := by obtain ⟨o, ho, hc, _⟩ := hl'; exact cls_notab I' ho (by rw [hc]; simp)
  have hZY : ∀ b, Zi b → Yo f μ b := fun b z => .inl (hZX b z)
  cases hd : ds.drop i with
  | nil =>
    have hi' : i = ds.length := by
      have := congrArg List.length hd
      simp at this; omega
    rw [hd] at its'
    refine wpAny_mono (ItS.done V r.hd I' F'.yk hZY its') (fun rr s3 q => ?_) fun _ _ z => z.elim
    obtain ⟨rfl, k3, I3⟩ := q
    refine ⟨rfl, I3, F'.stepZ I' k3 hZX its'.fields, k'.trans k3 fun b z => .inl (.inr (.inl z)), ys, hl'.at fun o e => k3.keep _ o e hDZ tabD, ?_⟩
    rw [hi', List.take_length] at il'
    exact il'.move ⟨fun _ z => .inl z, fun b o e y t => k3.keep b o e (fun z => y (hZY b z)) t⟩
  | cons d rest =>
    have hil : i < ds.length := by
      have := congrArg List.length hd
      simp at this; omega
    have hdi : ds[i]? = some d := by
      have := congrArg (·[0]?) hd
      simpa using this
    have hrest : ds.drop (i + 1) = rest := by rw [← List.tail_drop, hd]; rfl
    have htake : ds.take (i + 1) = ds.take i ++ [d] := by rw [List.take_add_one, hdi]; rfl
    rw [hd] at its'
    have hmem := List.mem_of_getElem? hdi
    obtain ⟨htst, hel⟩ := hturn d hmem
    refine wpAny_mono (ItS.next V I' F'.yk hZY its' (.inl ⟨rfl, ty, pty, rfl⟩)) (fun rr s3 q => ?_) fun _ _ z => z.elim
    obtain ⟨v, rfl, q⟩ := q
    refine wpAny_mono q (fun _ s4 q => ?_) fun _ _ z => z.elim
    obtain ⟨k4, I4, iv, it4⟩ := q
    have F4 := F'.stepZ I' k4 hZX its'.fields
    have l4 : s4.heap.IsList Dl ys.toArray := hl'.at fun o e => k4.keep _ o e hDZ tabD
    have il4 := il'.move (Y' := Yo f μ) ⟨fun _ z => .inl z, fun b o e y t => k4.keep b o e (fun z => y (hZY b z)) t⟩
    refine wpAny_mono (Asn.name (n := n) V j hx (.inl hk) A r s4 μ v I4 F4 iv) (fun _ s5 q => ?_) fun _ _ z => z.elim
    obtain ⟨k5, I5, F5⟩ := q
    have m5 : Mv (Yo f μ) (Yo f μ) s4.heap s5.heap := ⟨fun _ z => .inl z, fun b o e y t => k5.keep b o e (fun z => y (.inr z.1)) t⟩
    have it5 : ItS (Yo f μ) Zi false it rest s5.heap := it4.move m5 fun b o z e => k5.keep b o e (fun q => hZm b z q.1) (F5.notab V (hZY b z))
    have l5 : s5.heap.IsList Dl ys.toArray := l4.at fun o e => k5.keep _ o e (fun q => hDm q.1) tabD
    have il5 := il4.move m5
    have k05 : Kp (fun b => μ.Z b ∨ Zi b ∨ b = Dl) s s5 := (k'.trans k4 fun b z => .inl (.inr (.inl z))).trans k5 fun b z => .inl (.inl z.1)
    refine wpAny_mono (Tss.one htst A r s5 μ I5 F5) (fun ok s6 q => ?_) fun _ _ z => z.elim
    obtain ⟨rfl, k6, I6⟩ := q
    have F6 := F5.step I5 k6
    have m6 : Mv (Yo f μ) (Yo f μ) s5.heap s6.heap := Mv.of_kp k6
    have it6 : ItS (Yo f μ) Zi false it rest s6.heap := it5.move m6 fun b o z e => k6.keep b o e (fun q => q) (F5.notab V (hZY b z))
    have l6 : s6.heap.IsList Dl ys.toArray := l5.at fun o e => k6.keep _ o e (fun q => q) tabD
    have il6 := il5.move m6
    have k06 : Kp (fun b => μ.Z b ∨ Zi b ∨ b = Dl) s s6 := k05.trans k6 fun b z => z.elim
    have forget : ∀ {s7 : Shared}, Fm W f (ρ.set j (.val d)) μ s7.heap → Fm W f ρ μ s7.heap := fun F7 => by
      refine F7.forget (fun a d' ha => ?_) fun a l ha => ?_
      · by_cases e : a = j
        · subst e; rw [hun] at ha; cases ha
        · rw [List.getElem?_set_ne (Ne.symm e)]; exact ha
      · by_cases e : a = j
        · subst e; rw [hun] at ha; cases ha
        · rw [List.getElem?_set_ne (Ne.symm e)]; exact ha
    cases hp : p d with
    | false =>
      simp only [Bool.false_eq_true, if_false]
      refine ⟨ds.length - (i + 1), by omega, i + 1, ys, rfl, hil, I6, forget F6, by rw [hrest]; exact it6, k06, l6, ?_⟩
      rw [htake, List.filter_append]
      simpa [hp] using il6
    | true =>
      simp only [if_true]
      refine (hel hp).use r I6 F6 fun x s7 k7 I7 F7 i7 => ?_
      have m7 : Mv (Yo f μ) (Yo f μ) s6.heap s7.heap := Mv.of_kp k7
      have it7 : ItS (Yo f μ) Zi false it rest s7.heap := it6.move m7 fun b o z e => k7.keep b o e (fun q => q) (F6.notab V (hZY b z))
      have l7 : s7.heap.IsList Dl ys.toArray := l6.at fun o e => k7.keep _ o e (fun q => q) tabD
      have il7 := il6.move m7
      have hys : ys.length ≤ 1000 := by
        have e1 := il7.length
        have e2 := List.length_filter_le p (ds.take i)
        rw [List.length_take] at e2
        rw [e1, List.length_append, List.length_map]
        omega
      refine wpAny_list_append (hsz := by simp; exact Nat.le_trans hys (by decide)) l7 fun h8 l8 hs8 => ?_
      obtain ⟨oD, hoD, hcD⟩ := list_noCode l7
      have kq8 : Kq (fun b => b = Dl) s7.heap h8 := Kq.one hs8 hoD hcD
      have hBD : ∀ b, b = Dl → W.B ≤ b := fun b e => e ▸ (F7.lt Dl (.inl hDX)).2
      have k8 : Kp (fun b => b = Dl) s7 { s7 with heap := h8 } := kq8.kp (tk := s7.toks) (V.high hBD)
      have m8 : Mv (Yo f μ) (Yo f μ) s7.heap h8 := ⟨fun _ z => .inl z, fun b o e y _ => kq8.keep b o e fun q => y (.inl (q ▸ hDX))⟩
      refine ⟨ds.length - (i + 1), by omega, i + 1, ys ++ [x], rfl, hil, I7.step V kq8 hBD, ?_, ?_, (k06.trans k7 fun b z => z.elim).trans k8 fun b e => .inl (.inr (.inr e)), by simpa using l8, ?_⟩
      · refine forget ?_
        refine F7.move (X := f.X) (s' := { s7 with heap := h8 }) m8 (fun a o e nf ns t => (hs8.2 a fun q => ?_).trans e) I7 (fun b y => by rw [hs8.1]; exact F7.lt b (.inl y)) (Nat.le_of_eq hs8.1.symm)
        rw [q] at e ns
        have e' := hoD.symm.trans e
        cases e'
        obtain ⟨o', ho', _, k, hd'⟩ := l7
        rw [hoD] at ho'; cases ho'
        exact hDm (ns _ _ hd')
      · rw [hrest]; exact it7.move m8 fun b o z e => (hs8.2 b (fun q => hDZ (q ▸ z))).trans e
      · rw [htake, List.filter_append, List.map_append, ← List.append_assoc]
        refine D.IsL.append (il7.move m8) ?_
        simpa [hp] using D.IsL.cons (i7.move m8) D.IsL.nil
end
end Mine
end
section -- S51
open PySem PySem.W PyProof.Rows PySem.Calls PySem.Spec
set_option Elab.async false
set_option maxRecDepth 100000
set_option linter.unusedVariables false
set_option autoImplicit false
set_option pp.maxSteps 600
namespace Mine
section
variable {W : Wd} {f : Fd} {ρ ρ' : List Vr} {μ : Mu} {n : Nat}

/-- x = [elt for tx in i1 for ty in i2 if c] -/
theorem exComp2 {y tx ty : Str} {py px pty spos : Pos} {iy : Nat} {elt i1 i2 c : Expr} {scope : Scope} {pos : Pos} {ds ds2 : List D} {cl : List (Str × Addr)} (V : W.Ok) (caps : List (Str × Nat × D)) (p : D → D → Bool) (g : D → D → D) (R : D → List D) (hR : ∀ d1, R d1 = (ds2.filter (p d1)).map (g d1))
    (h1 : It W n f ρ false i1 ds) (h2 : ∀ d1 ∈ ds, ∀ X C L, It W n (fdC f scope cl ([tx, ty] ++ cn caps) X C L) (Vr.val d1 :: .un :: cv caps) false i2 ds2)
    (hclos : closureFor scope f.env = pure cl) (hcaps : CapsOk f ρ (fun x => (relabel scope f.env).names.lookup x) cl caps)
    (hturn : ∀ d1 ∈ ds, ∀ d2 ∈ ds2, ∀ X C L, Ts W n (fdC f scope cl ([tx, ty] ++ cn caps) X C L) (Vr.val d1 :: .val d2 :: cv caps) c (p d1 d2) ∧ (p d1 d2 = true → Ev W n (fdC f scope cl ([tx, ty] ++ cn caps) X C L) (Vr.val d1 :: .val d2 :: cv caps) elt (g d1 d2)))
    (hsz : ds.length * ds2.length ≤ 1000) (htx : scope.names.lookup tx = some .local) (hty : scope.names.lookup ty = some .local)
    (hnod : ([tx, ty] ++ cn caps).Nodup) (hcell : ∀ y ∈ scope.names, y.2 ≠ .cell := by decide) (hkind : scope.kind = .function := by rfl)
    (hnames : ∀ y ∈ scope.names, y.2 = .local → scope.names.lookup y.1 = some .local := by decide)
    (hs : ∀ x, foldedSetIterable i1 f.env x = pure x := by intro _; rfl) (hs2 : ∀ {X C L} x, foldedSetIterable i2 (fdC f scope cl ([tx, ty] ++ cn caps) X C L).env x = pure x := by intro _ _ _ _; rfl) (hy : f.nm[iy]? = some y) (hyk : f.env.kindOf y = some .local)
    (hsw : swapsWith (.ListComp elt [⟨.Name tx px, i1, [], 0⟩, ⟨.Name ty pty, i2, [c], 0⟩] scope pos) (some (.Name y py)) spos.line f.env = pure true := by rfl) :
    Ex W n f ρ (.Assign [.Name y py] (.ListComp elt [⟨.Name tx px, i1, [], 0⟩, ⟨.Name ty pty, i2, [c], 0⟩] scope pos) spos) (ρ.set iy (.val (.lst (ds.flatMap R)))) := by
  intro A r s μ I F
  rw [exec_Assign_Name_used _ _ _ _ hsw]
  refine wpAny_bind (wpAny_standAt (wpAny_bind ?_))
  show wpAny _ A (do let _ ← comprehension (.ListComp elt [⟨.Name tx px, i1, [], 0⟩, ⟨.Name ty pty, i2, [c], 0⟩] scope pos) scope f.env _ (newList []) false (eval i1 f.env) (some (assign (.Name y py) f.env))) _ _ s
  refine wpAny_bind (wpAny_mono (wpAny_comprehension_free (use := some (assign (.Name y py) f.env)) (Q := fun _ s' => Flow.next = .next ∧ ∃ μ', Af W f μ s (ρ.set iy (.val (.lst (ds.flatMap R)))) μ' s') rfl hs hclos hkind hnames (wpAny_mono (h1 A r s μ I F) (fun xv s1 h1 => wpAny_mono h1 (fun it s2 h2 => ?_) fun _ _ z => z) fun _ _ z => z)) (fun _ s' hq => wpAny_pure (wpAny_pure hq)) fun _ _ e => e)
  obtain ⟨Zi, k2, I2, hZi, its⟩ := h2
  refine wpAny_newObj_type (wpAny_newFunctionEnv hcell (by intro y hy; simp at hy) (fun h3 hns3 hsb3 => ?_) hkind)
  dsimp only at hns3 hsb3 ⊢
  generalize hD : s2.heap.objs.size = Dl at *
  generalize hH2 : s2.heap.push { cls := .type "list", dict := none, data := .seq ([] : List Value).toArray } = H2 at hns3 hsb3 ⊢
  have hCs : H2.objs.size = Dl + 1 := by rw [← hH2, Heap.size_push, hD]
  generalize hC : H2.objs.size = C at *
  have hDC : (Dl : Addr) ≠ C := by rw [hCs]; exact Nat.ne_of_lt (Nat.lt_succ_self _)
  have hsD : s.heap.objs.size ≤ Dl := by rw [← hD]; exact k2.size
  have hsC : s.heap.objs.size ≤ C := by rw [hCs]; exact Nat.le_succ_of_le hsD
  have sz3 : h3.objs.size = C + 1 := by rw [hsb3.1, Heap.size_push, hC]
  have old : ∀ b o, s2.heap.get? b = some o → h3.get? b = some o := fun b o e => by
    have hlt : b < Dl := hD ▸ Heap.lt_size e
    have hb : b ≠ C := Nat.ne_of_lt (by rw [hCs]; exact Nat.lt_succ_of_lt hlt)
    rw [hsb3.2 b hb, ← hH2]
    exact Heap.get?_push_of_some _ (Heap.get?_push_of_some _ e)
  have hacc : h3.IsList Dl (List.toArray []) := by
    refine ⟨{ cls := .type "list", dict := none, data := .seq ([] : List Value).toArray }, ?_, rfl, _, rfl⟩
    rw [hsb3.2 _ hDC, ← hH2, ← hD]
    exact Heap.get?_push_of_some _ (Heap.get?_push_size _ rfl)
  have kq3 : Kq No s2.heap h3 := .all old (by rw [hD, sz3, hCs]; omega)
  have I3 : Inv W h3 := I2.step V kq3 fun _ z => z.elim
  generalize htk : s2.toks + List.length (α := Str × Value) [] = tk3 at *
  have k3 : Kp No s { s2 with heap := h3, toks := tk3 } := k2.trans0 (kq3.kp fun _ _ z => z)
  let X : Addr → Prop := fun b => Yo f μ b ∨ Zi b ∨ b = Dl
  let fc := fdC f scope cl ([tx, ty] ++ cn caps) X C s.heap.objs.size
  let μc : Mu := ⟨(· = C), fun _ => 0⟩
  have hXlt : ∀ b, X b → b < h3.objs.size ∧ W.B ≤ b := fun b y => by
    rw [sz3, hCs]
    rcases y with y | y | y
    · refine ⟨Nat.lt_of_lt_of_le (F.lt b y).1 (Nat.le_trans hsD ?_), (F.lt b y).2⟩; omega
    · refine ⟨Nat.lt_trans (hZi b y).2 ?_, Nat.le_trans I.size (hZi b y).1⟩; omega
    · rw [y]; exact ⟨Nat.lt_succ_of_lt (Nat.lt_succ_self _), Nat.le_trans I.size hsD⟩
  have mv3 : Mv (Yo f μ) (Yo fc μc) s.heap h3 := ⟨fun b y => by
    rcases y with (y | y | y) | y
    · exact .inl y
    · exact .inr (hZi b y).1
    · exact .inr (y ▸ hsD)
    · exact .inr (y ▸ hsC), fun b o e _ t => k3.keep b o e (fun z => z) t⟩
  have F3 : Fm W fc (Vr.un :: .un :: cv caps) μc h3 := by
    refine ⟨hkind, F.glob, F.blt, hnod, ⟨_, hns3⟩, rfl, (fun q => by cases q), (fun q => by cases q), fun i x d hi' hd' => ?_, fun i x l _ hl => (getElem?_pad_box (k := 2) hl).elim, fun b y => ?_, fun b z => z ▸ hsC, I.size⟩
    · obtain ⟨hle, hd2⟩ := getElem?_pad (k := 2) hd'
      have hx2 : (cn caps)[i - 2]? = some x := by
        have : ([tx, ty] ++ cn caps)[i]? = some x := hi'
        rwa [List.getElem?_append_right hle] at this
      simp only [cv, cn, List.getElem?_map] at hd2 hx2
      cases hq : caps[i - 2]? with
      | none => rw [hq] at hd2; cases hd2
      | some q =>
        rw [hq] at hd2 hx2
        cases hd2; cases hx2
        obtain ⟨e1, e2, e3, e4, e5⟩ := hcaps.mem q (List.mem_of_getElem? hq)
        obtain ⟨v, H, iv⟩ := F.val _ _ _ e1 e2
        refine ⟨v, .inr ⟨e4, ?_⟩, iv.move mv3⟩
        rcases H with ⟨a, _⟩ | ⟨a, c, l, hc⟩
        · rw [a] at e3; rcases e3 with e3 | e3 <;> cases e3
        · refine ⟨c, e5.trans l, ?_⟩
          have nt := cell_notab I hc
          obtain ⟨o, ho, hd⟩ := hc
          exact ⟨o, k3.keep _ _ ho (fun z => z) nt, hd⟩
    · rcases y with y | y
      · exact hXlt b y
      · rw [show b = C from y, sz3]; exact ⟨Nat.lt_succ_self _, Nat.le_trans I.size hsC⟩
  have its3 : ItS (Yo fc μc) Zi false it ds h3 := its.move ⟨fun b y => by
    rcases y with (y | y | y) | y
    · exact .inl (.inl y)
    · exact .inl (.inr y)
    · exact .inr (by rw [hD]; exact Nat.le_of_eq y.symm)
    · exact .inr (by rw [hD, show b = C from y, hCs]; exact Nat.le_succ _), fun b o e _ _ => old b o e⟩ fun b o _ e => old b o e
  have hZX : ∀ b, Zi b → Yo fc μc b := fun b z => .inl (.inr (.inl z))
  have hZC : ∀ b, Zi b → b ≠ C := fun b z e => by
    have := (hZi b z).2
    rw [show b = C from e, hCs] at this; omega
  have hZD : ∀ b, Zi b → b ≠ Dl := fun b z e => by
    have := (hZi b z).2
    rw [show b = Dl from e] at this; omega
  have loop : codeAny W.M A (.compLoop (.ListComp elt [⟨.Name tx px, i1, [], 0⟩, ⟨.Name ty pty, i2, [c], 0⟩] scope pos) 0 it (.ref Dl) fc.env) (compPost W.M A Fz (some (assign (.Name y py) f.env)) (fun _ s' => Flow.next = .next ∧ ∃ μ', Af W f μ s (ρ.set iy (.val (.lst (ds.flatMap R)))) μ' s') (.ref Dl) C) { s2 with heap := h3, toks := tk3 } := by
    refine loopOut (fun k s' => ∃ i ys, k = ds.length - i ∧ i ≤ ds.length ∧ Inv W s'.heap ∧ Fm W fc (Vr.un :: .un :: cv caps) μc s'.heap ∧ ItS (Yo fc μc) Zi false it (ds.drop i) s'.heap ∧ Kp (fun b => s.heap.objs.size ≤ b) s s' ∧
      s'.heap.IsList Dl (List.toArray ys) ∧ D.IsL (Yo fc μc) s'.heap ((ds.take i).flatMap R) ys) ?_ ds.length ⟨0, [], by simp, by simp, I3, F3, by simpa using its3, k3.up, hacc, by simpa using D.IsL.nil⟩ hs2
    rintro k s' ⟨i, ys, rfl, hle, I', F', its', k', hl', il'⟩
    have tabD : ¬ isTab Dl := by obtain ⟨o, ho, hc, _⟩ := hl'; exact cls_notab I' ho (by rw [hc]; simp)
    cases hd : ds.drop i with
    | nil =>
      have hi' : i = ds.length := by
        have := congrArg List.length hd
        simp at this; omega
      rw [hd] at its'
      refine wpAny_mono (ItS.done V r.hd I' F'.yk hZX its') (fun rr s3 q => ?_) fun _ _ z => z.elim
      obtain ⟨rfl, k3, I3⟩ := q
      have F3 := F'.stepZ I' k3 (fun b z => .inr (.inl z)) its'.fields
      obtain ⟨m, hm⟩ := F3.ns
      have hlD : s3.heap.IsList Dl ys.toArray := hl'.at fun o e => k3.keep _ o e (fun z => hZD _ z rfl) tabD
      have ilD : D.IsL (Yo fc μc) s3.heap ((ds.take i).flatMap R) ys := il'.move ⟨fun _ z => .inl z, fun b o e y t => k3.keep b o e (fun z => y (hZX b z)) t⟩
      have kall : Kp (fun b => s.heap.objs.size ≤ b) s s3 := k'.trans k3 fun b z => .inl (hZi b z).1
      have kno : Kp No s s3 := kall.weaken fun b z => .inr z
      have ltC : C < s3.heap.objs.size := hm.lt
      have fX := F.setX (X := fun b => f.X b ∨ b = C) I kno (fun b q => q.imp_right fun e => by rw [show b = C from e]; exact hsC) (fun b q => by
        rcases q with q | q
        · exact ⟨Nat.lt_of_lt_of_le (F.lt b (.inl q)).1 kno.size, (F.lt b (.inl q)).2⟩
        · rw [show b = C from q]; exact ⟨ltC, Nat.le_trans I.size hsC⟩)
      have id3 : (D.lst (ds.flatMap R)).Is (Yo (f.setX fun b => f.X b ∨ b = C) μ) s3.heap (.ref Dl) := by
        simp only [D.Is]
        refine ⟨Dl, ys, rfl, ⟨fun q => ?_, tabD⟩, hlD, ?_⟩
        · rcases q with (q | q) | q
          · exact absurd (F.lt _ (.inl q)).1 (Nat.not_lt.mpr hsD)
          · exact hDC q
          · exact absurd (F.lt _ (.inr q)).1 (Nat.not_lt.mpr hsD)
        · rw [hi', List.take_length] at ilD
          exact ilD.move ⟨fun b q => by
            rcases q with (q | q) | q
            · exact .inl (.inl (.inl (.inl q)))
            · exact .inl (.inr q)
            · exact .inl (.inl (.inl (.inr q))), fun b o e _ _ => e⟩
      show wpAny W.M A (assign (.Name y py) f.env (.ref Dl)) _ _ _
      refine wpAny_assign_Name (sto0 (f := f.setX fun b => f.X b ∨ b = C) V I3 fX (x := y) (i := iy) hy (.inl hyk) id3 fun s4 k4 I4 F4 => ?_)
      have nzC : ¬ μ.Z C := fun z => absurd (F.lt C (.inr z)).1 (Nat.not_lt.mpr hsC)
      have tabC := ns_notab I3 hm
      have hm4 := hm.at' fun o e => k4.keep _ o e (fun z => nzC z.1) tabC
      refine ⟨m, hm4, fun h' hs' => ?_⟩
      obtain ⟨oC, hoC, hcC⟩ := ns_noCode hm4
      have kqC : Kq (fun b => b = C) s4.heap h' := Kq.one hs' hoC hcC
      have hBC : ∀ b, b = C → W.B ≤ b := fun b e => e ▸ Nat.le_trans I.size hsC
      have k5 : Kp (fun b => b = C) s4 { s4 with heap := h' } := kqC.kp (tk := s4.toks) (V.high hBC)
      have F5 : Fm W (f.setX fun b => f.X b ∨ b = C) (ρ.set iy (.val (.lst (ds.flatMap R)))) μ h' := F4.stepX (.inr rfl) hs' hm4 (fun q => nzC (q ▸ F.nsZ))
      refine ⟨rfl, μ, ⟨((kno.up).trans k4 fun b z => .inl z.1).trans k5 fun b e => .inr (e ▸ hsC), I4.step V kqC hBC, ?_, fun b z => .inl z⟩⟩
      exact F5.dropX (X := f.X) fun b q => .inl q
    | cons d rest =>
      have hil : i < ds.length := by
        have := congrArg List.length hd
        simp at this; omega
      have hdi : ds[i]? = some d := by
        have := congrArg (·[0]?) hd
        simpa using this
      have hrest : ds.drop (i + 1) = rest := by rw [← List.tail_drop, hd]; rfl
      have htake : ds.take (i + 1) = ds.take i ++ [d] := by rw [List.take_add_one, hdi]; rfl
      rw [hd] at its'
      have hmem := List.mem_of_getElem? hdi
      have hlocx : fc.env.kindOf tx = some .local := lookup_relabel_local htx
      have hlocy : fc.env.kindOf ty = some .local := lookup_relabel_local hty
      refine wpAny_mono (ItS.next V I' F'.yk hZX its' (.inl ⟨rfl, tx, px, rfl⟩)) (fun rr s3 q => ?_) fun _ _ z => z.elim
      obtain ⟨v, rfl, q⟩ := q
      refine wpAny_mono q (fun _ s4 q => ?_) fun _ _ z => z.elim
      obtain ⟨k4, I4, iv, it4⟩ := q
      have F4 := F'.stepZ I' k4 (fun b z => .inr (.inl z)) its'.fields
      have l4 : s4.heap.IsList Dl ys.toArray := hl'.at fun o e => k4.keep _ o e (fun z => hZD _ z rfl) tabD
      have il4 : D.IsL (Yo fc μc) s4.heap ((ds.take i).flatMap R) ys := il'.move ⟨fun _ z => .inl z, fun b o e y t => k4.keep b o e (fun z => y (hZX b z)) t⟩
      refine wpAny_mono (Asn.name (n := n) V 0 rfl (.inl hlocx) A r s4 μc v I4 F4 iv) (fun _ s5 q => ?_) fun _ _ z => z.elim
      obtain ⟨k5, I5, F5⟩ := q
      have m5 : Mv (Yo fc μc) (Yo fc μc) s4.heap s5.heap := ⟨fun _ z => .inl z, fun b o e y t => k5.keep b o e (fun z => y (.inr z.1)) t⟩
      have it5 : ItS (Yo fc μc) Zi false it rest s5.heap := it4.move m5 fun b o z e => k5.keep b o e (fun q => hZC b z q.1) (F5.notab V (hZX b z))
      have l5 : s5.heap.IsList Dl ys.toArray := l4.at fun o e => k5.keep _ o e (fun q => hDC q.1) tabD
      have il5 := il4.move m5
      have k05 : Kp (fun b => s.heap.objs.size ≤ b) s s5 := (k'.trans k4 fun b z => .inl (hZi b z).1).trans k5 fun b z => .inl (by rw [show b = C from z.1]; exact hsC)
      have F5a : Fm W fc (Vr.val d :: .un :: cv caps) μc s5.heap := F5
      refine wpAny_mono (h2 d hmem X C s.heap.objs.size A r s5 μc I5 F5a) (fun xv s6 h6 => wpAny_mono h6 (fun it2 s7 q => ?_) fun _ _ z => z) fun _ _ z => z
      obtain ⟨Z2, k7, I7, hZ2, its7⟩ := q
      let X2 : Addr → Prop := fun b => X b ∨ Z2 b
      have F7 : Fm W (fc.setX X2) (Vr.val d :: .un :: cv caps) μc s7.heap := F5a.setX I5 k7 (fun b y => y.imp_right fun z => (hZ2 b z).1) fun b y => by
        rcases y with y | y
        · exact ⟨Nat.lt_of_lt_of_le (F5.lt b (.inl y)).1 k7.size, (F5.lt b (.inl y)).2⟩
        · exact ⟨(hZ2 b y).2, Nat.le_trans I5.size (hZ2 b y).1⟩
      have its7' : ItS (Yo (fc.setX X2) μc) Z2 false it2 ds2 s7.heap := its7.move ⟨fun b y => .inl (by rcases y with (y | y) | y; exact .inl (.inl y); exact .inr y; exact .inl (.inr y)), fun b o e _ _ => e⟩ fun b o _ e => e
      have l7 : s7.heap.IsList Dl ys.toArray := l5.at fun o e => k7.keep _ o e (fun q => q) tabD
      have il7' : D.IsL (Yo (fc.setX X2) μc) s7.heap ((ds.take i).flatMap R) ys := il5.move ⟨fun b y => by
        rcases y with (y | y) | y
        · exact .inl (.inl y)
        · exact .inr (hZ2 b y).1
        · exact .inl (.inr y), fun b o e _ t => k7.keep b o e (fun z => z) t⟩
      have ltC5 : C < s5.heap.objs.size := by obtain ⟨m, hm⟩ := F5.ns; exact hm.lt
      have nC2 : ∀ b, Z2 b → b ≠ C := fun b z e => absurd ltC5 (Nat.not_lt.mpr (e ▸ (hZ2 b z).1))
      have nD2 : ¬ Z2 Dl := fun z => absurd (by obtain ⟨o, ho, _⟩ := l5; exact Heap.lt_size ho : Dl < s5.heap.objs.size) (Nat.not_lt.mpr (hZ2 _ z).1)
      have hlen : ((ds.take i).flatMap R).length + ds2.length ≤ 1000 := by
        have : ∀ (l : List D), (l.flatMap R).length ≤ l.length * ds2.length := fun l => by
          induction l with
          | nil => simp
          | cons a l ih =>
            rw [List.flatMap_cons, List.length_append, List.length_cons, Nat.add_mul, Nat.one_mul, hR, List.length_map]
            have := List.length_filter_le (p a) ds2
            omega
        have h1 := this (ds.take i)
        have h2 : (ds.take i).length + 1 ≤ ds.length := by rw [List.length_take]; omega
        have h3 := Nat.mul_le_mul_right ds2.length h2
        rw [Nat.add_mul, Nat.one_mul] at h3
        omega
      have inner := inLoop2 (f := fc.setX X2) (ρ := Vr.val d :: .un :: cv caps) (elt := elt) (t1 := .Name tx px) (i1 := i1) (i2 := i2) (c := c) (pty := pty) (scope := scope) (pos := pos) (j := 1) V (p d) (g d) r I7 F7 its7' (fun b z => .inr z) (fun b z e => nC2 b z e) (.inl (.inr (.inr rfl))) nD2 hDC l7 il7' rfl hlocy rfl (fun d2 hd2 => hturn d hmem d2 hd2 X2 C s.heap.objs.size) hlen
      refine codeAny_mono (start1 inner (ItS.self (s := s7) its7' inner |> fun h => wpAny_mono h (fun _ _ q => q) fun _ _ z => z.elim)) fun rr s8 q => ?_
      obtain ⟨rfl, I8, F8, k8, ys', l8, il8⟩ := q
      have k58 : Kp (fun b => b = C ∨ b = Dl) s5 s8 := (k7.up).trans k8 fun b z => by
        rcases z with z | z | z
        · exact .inl (.inl z)
        · exact .inr (hZ2 b z).1
        · exact .inl (.inr z)
      have it8 : ItS (Yo fc μc) Zi false it rest s8.heap := it5.move ⟨fun _ z => .inl z, fun b o e y t => k58.keep b o e (fun z => y (z.elim .inr fun e => .inl (.inr (.inr e)))) t⟩ fun b o z e => k58.keep b o e (fun q => q.elim (hZC b z) (hZD b z)) (F5.notab V (hZX b z))
      have F8' : Fm W fc (Vr.val d :: .un :: cv caps) μc s8.heap := F8.dropX (f := fc.setX X2) (X := X) fun b y => .inl y
      refine ⟨rfl, ds.length - (i + 1), by omega, i + 1, ys', rfl, hil, I8, ?_, by rw [hrest]; exact it8, k05.trans k58 fun b z => .inl (z.elim (fun e => e ▸ hsC) fun e => e ▸ hsD), l8, ?_⟩
      · refine F8'.forget (fun a d' ha => ?_) fun a l ha => ?_
        · cases a with
          | zero => cases ha
          | succ a => exact ha
        · cases a with
          | zero => cases ha
          | succ a => exact ha
      · rw [htake, List.flatMap_append, show [d].flatMap R = (ds2.filter (p d)).map (g d) by rw [List.flatMap_cons, hR]; simp]
        exact il8.move ⟨fun b y => by
          rcases y with y | y
          · exact .inl (.inl (.inl y))
          · exact .inl (.inr y), fun b o e _ _ => e⟩
  exact codeAny_compStart_list loop (ItS.self (s := { s2 with heap := h3, toks := tk3 }) its3 loop |> fun h => wpAny_mono h (fun _ _ q => q) fun _ _ z => z.elim)
end
end Mine
end
section -- S52
open PySem PySem.W PyProof.Rows PySem.Calls PySem.Spec
set_option Elab.async false
set_option maxRecDepth 100000
set_option linter.unusedVariables false
set_option autoImplicit false
set_option pp.maxSteps 600
namespace Mine
section
variable {W : Wd} {f : Fd} {ρ ρ' : List Vr} {μ : Mu} {n : Nat}

/-- the name of the range i: a letter -/
noncomputable def let1 (i : Nat) : Str := ⟨#[118 + i]⟩
theorem vwxyz_get {i : Nat} (h : i < 5) : (S "vwxyz").cps[i]? = some (118 + i) := by
  have : ∀ i : Fin 5, (S "vwxyz").cps[i.val]? = some (118 + i.val) := by decide +kernel
  exact this ⟨i, h⟩
noncomputable abbrev Rs := List (Int × Int)
noncomputable def pairD (q : Int × Int) : D := .tup [.int q.1, .int q.2]
noncomputable def ahead (rs : Rs) (i j : Nat) : Bool := decide ((rs.getD i (0, 0)).2 < (rs.getD j (0, 0)).1)
noncomputable def pairsOf (rs : Rs) : List (Nat × Nat) := (List.range 5).flatMap fun i => ((List.range 5).filter (ahead rs i)).map fun j => (i, j)
noncomputable def npD (q : Nat × Nat) : D := .tup [nat q.1, nat q.2]
noncomputable def aheadD (rs : Rs) : D → D → Bool
  | .int i, .int j => ahead rs i.toNat j.toNat
  | _, _ => false
theorem rng_eq (k : Nat) : rng 0 k = (List.range k).map nat := by
  refine List.ext_getElem? fun i => ?_
  rcases Nat.lt_or_ge i k with h | h
  · have hl : i < (rng 0 k).length := by rw [rng_len]; exact h
    obtain ⟨e, _⟩ := rng_get0 (List.getElem?_eq_getElem hl)
    rw [List.getElem?_eq_getElem hl, e, List.getElem?_map, List.getElem?_range h]; rfl
  · rw [List.getElem?_eq_none (by rw [rng_len]; exact h), List.getElem?_eq_none (by simpa using h)]
theorem pairs_eq (rs : Rs) : ((rng 0 5).flatMap fun d1 => ((rng 0 5).filter (aheadD rs d1)).map fun d2 => D.tup [d1, d2]) = (pairsOf rs).map npD := by
  rw [rng_eq, pairsOf, List.map_flatMap, List.flatMap_map]
  congr 1
  funext i
  rw [List.filter_map, List.map_map, List.map_map]
  rfl
theorem mem_pairs {rs : Rs} {q : Nat × Nat} (h : q ∈ pairsOf rs) : q.1 < 5 ∧ q.2 < 5 ∧ ahead rs q.1 q.2 = true := by
  unfold pairsOf at h
  obtain ⟨i, hi, h⟩ := List.mem_flatMap.mp h
  obtain ⟨j, hj, rfl⟩ := List.mem_map.mp h
  obtain ⟨h1, h2⟩ := List.mem_filter.mp hj
  exact ⟨List.mem_range.mp hi, List.mem_range.mp h1, h2⟩
theorem pairs_len (rs : Rs) : (pairsOf rs).length ≤ 25 := by
  have e := congrArg List.length (pairs_eq rs)
  have : ∀ (l : List D), (l.flatMap fun d1 => ((rng 0 5).filter (aheadD rs d1)).map fun d2 => D.tup [d1, d2]).length ≤ l.length * 5 := fun l => by
    induction l with
    | nil => simp
    | cons a l ih =>
      rw [List.flatMap_cons, List.length_append, List.length_cons, List.length_map]
      have := List.length_filter_le (aheadD rs a) (rng 0 5)
      rw [rng_len] at this
      omega
  have h := this (rng 0 5)
  rw [e, List.length_map, rng_len] at h
  exact h
noncomputable def qt (q : Nat × Nat) : Str := qtext (let1 q.1) (let1 q.2)
noncomputable def tagsOf (rs : Rs) : List Tag := [.none, .str (S "vw"), .str (S "{vw}u")] ++ (pairsOf rs).map (fun q => .str (qt q)) ++ (pairsOf rs).map (fun q => .qn (qt q)) ++ (List.range 5).map fun i => .qn (let1 i)
theorem tags_len (rs : Rs) : (tagsOf rs).length ≤ 58 := by
  have := pairs_len rs
  unfold tagsOf
  simp only [List.length_append, List.length_map, List.length_cons, List.length_nil, List.length_range]
  omega
noncomputable def qnOf : D → D
  | .tup [.int i, .int j] => .qn (qt (i.toNat, j.toNat))
  | d => d
noncomputable def textOf : D → D
  | .qn x => .str x
  | d => d
noncomputable def qn1 : D → D
  | .str x => .qn x
  | d => d
set_option maxHeartbeats 8000000 in
theorem c_things {rs : Rs} (V : W.Ok) (hr : rs.length = 5) : Cl W 6 (.ref 185) [.lst (rs.map pairD)] (.lst ((tagsOf rs).map thing)) := by
  refine Cl.fn (nm := [S "ranges", S "pairs", S "both", S "tags"]) (k := 3) V (fnAt rfl rfl) (cdAt rfl rfl rfl rfl) rfl rfl rfl rfl ?_ (by decide) (by simp) (by decide +kernel) fun X L => ?_
  · intro vs h
    rcases vs with _ | ⟨v0, _ | _⟩ <;> simp at h
    rfl
  have item : ∀ {i : Nat}, i < 5 → (rs.map pairD)[i]? = some (.tup [.int (rs.getD i (0, 0)).1, .int (rs.getD i (0, 0)).2]) := fun {i} h => getMap (g := pairD) (d := (0, 0)) (by rw [hr]; exact h)
  refine Rt.cons (ρ' := [.val (.lst (rs.map pairD)), .val (.lst ((pairsOf rs).map npD)), .un, .un]) ?_ ?_
  · rw [← pairs_eq]
    refine exComp2 (iy := 1) V [(S "ranges", 0, .lst (rs.map pairD))] (aheadD rs) (fun d1 d2 => .tup [d1, d2]) _ (fun _ => rfl) (It.range (k := 5) V (Ev.bname (v := .type "range") V rfl (by kernel_rfl) (by decide +kernel)) Ev.int) ?_ rfl ⟨⟨rfl, rfl, .inl rfl, .inl rfl, rfl⟩, trivial⟩ ?_ (by rw [rng_len]; decide) rfl rfl (show ([S "i", S "j", S "ranges"] : List Str).Nodup by decide) (hy := rfl) (hyk := rfl)
    · intro d1 hd1 X C L
      exact It.range (k := 5) V (Ev.bname (v := .type "range") V rfl (by kernel_rfl) (by decide +kernel)) Ev.int
    · intro d1 hd1 d2 hd2 X C L
      rw [rng_eq] at hd1 hd2
      obtain ⟨i, hi, rfl⟩ := List.mem_map.mp hd1
      obtain ⟨j, hj, rfl⟩ := List.mem_map.mp hd2
      have hi5 := List.mem_range.mp hi
      have hj5 := List.mem_range.mp hj
      refine ⟨Ts.cmp (Ev.itemT (k := 1) (Ev.itemL (Ev.name 2 rfl rfl) (Ev.name 0 rfl rfl) (item hi5)) Ev.int rfl) (Ev.itemT (k := 0) (Ev.itemL (Ev.name 2 rfl rfl) (Ev.name 1 rfl rfl) (item hj5)) Ev.int rfl) F2.ltI, fun _ => Ev.tup V (EvL.cons (Ev.name 0 rfl rfl) (EvL.cons (Ev.name 1 rfl rfl) EvL.nil)) (by show 2 ≤ sizeLine; decide)⟩
  have pl := pairs_len rs
  refine Rt.cons (ρ' := [.val (.lst (rs.map pairD)), .val (.lst ((pairsOf rs).map npD)), .val (.lst ((pairsOf rs).map fun q => .qn (qt q))), .un]) ?_ ?_
  · have e : (pairsOf rs).map (fun q => D.qn (qt q)) = ((((pairsOf rs).map npD).filter fun _ => true).map qnOf) := by
      rw [List.filter_eq_self.mpr (fun _ _ => rfl), List.map_map]; rfl
    rw [e]
    refine exComp (iy := 2) (caps := []) (tn := [S "i", S "j"]) true V (p := fun _ => true) (g := qnOf) (It.lst V (Ev.name 1 rfl rfl)) ?_ rfl trivial ?_ (by rw [List.length_map]; exact Nat.le_trans pl (by decide)) (hnod := (show ([S "i", S "j"] : List Str).Nodup by decide)) (hy := rfl) (hyk := rfl)
    · intro d hd
      obtain ⟨q, hq, rfl⟩ := List.mem_map.mp hd
      exact .inr ⟨rfl, _, _, _, _, rfl, rfl⟩
    · intro d hd X C L
      obtain ⟨q, hq, rfl⟩ := List.mem_map.mp hd
      obtain ⟨h1, h2, _⟩ := mem_pairs hq
      refine ⟨[.val (nat q.1), .val (nat q.2)], rfl, Asn.tuple V (.cons (Asn.name V 0 rfl (.inl rfl)) rfl (.cons (Asn.name V 1 rfl (.inl rfl)) rfl .nil)), Tss.nil, fun _ => ?_⟩
      apply Ev.call
      case hf => exact Ev.gname (v := .ref 145) V rfl (by kernel_rfl)
      case ha => exact EvL.cons (Ev.itemS Ev.str (Ev.name 0 rfl rfl) (vwxyz_get h1)) (EvL.cons (Ev.itemS Ev.str (Ev.name 1 rfl rfl) (vwxyz_get h2)) EvL.nil)
      case hk => exact Kept.ref (by kernel_rfl)
      case hc => exact Cl.qn2 (n := 2) V (show 1 ≤ 1000 by decide) (show 1 ≤ 1000 by decide) (show 1 ≠ 0 by decide)
      all_goals rfl
  refine Rt.cons (Ex.assign (d := .lst ((tagsOf rs).map Tag.d)) 3 V ?_ rfl (.inl rfl)) ?_
  · have e : (tagsOf rs).map Tag.d = (([D.none, .str (S "vw"), .str (S "{vw}u")] ++ ((((pairsOf rs).map fun q => D.qn (qt q)).filter fun _ => true).map textOf)) ++ ((pairsOf rs).map fun q => .qn (qt q))) ++ (((((S "vwxyz").cps.toList.map fun c => D.str ⟨#[c]⟩)).filter fun _ => true).map qn1) := by
      rw [List.filter_eq_self.mpr (fun _ _ => rfl), List.filter_eq_self.mpr (fun _ _ => rfl), tagsOf]
      simp only [List.map_append, List.map_map]
      rfl
    rw [e]
    refine Ev.bin (Ev.bin (Ev.bin (Ev.lst V (EvL.cons Ev.noneC (EvL.cons Ev.str (EvL.cons Ev.str EvL.nil))) (by decide)) ?_ (F2.addL V ?_)) (Ev.name 2 rfl rfl) (F2.addL V ?_)) ?_ (F2.addL V ?_)
    · refine Ev.comp (caps := []) (tn := [S "name"]) false V (p := fun _ => true) (g := textOf) (It.lst V (Ev.name 2 rfl rfl)) ?_ rfl trivial ?_ (by rw [List.length_map]; exact Nat.le_trans pl (by decide))
      · intro d hd
        exact .inl ⟨rfl, _, _, rfl⟩
      · intro d hd X C L
        obtain ⟨q, hq, rfl⟩ := List.mem_map.mp hd
        exact ⟨[.val (.qn (qt q))], rfl, Asn.name V 0 rfl (.inl rfl), Tss.nil, fun _ => Ev.text (Ev.name 0 rfl rfl)⟩
    · rw [List.filter_eq_self.mpr (fun _ _ => rfl)]
      simp only [List.length_map, List.length_cons, List.length_nil]
      exact Nat.le_trans (Nat.add_le_add_left pl _) (by decide)
    · rw [List.filter_eq_self.mpr (fun _ _ => rfl)]
      simp only [List.length_map, List.length_cons, List.length_nil, List.length_append]
      exact Nat.le_trans (show _ ≤ 3 + 25 + 25 by omega) (by decide)
    · refine Ev.comp (caps := []) (tn := [S "name"]) false V (p := fun _ => true) (g := qn1) (It.str V Ev.str) ?_ rfl trivial ?_ (by simp; decide)
      · intro d hd
        exact .inl ⟨rfl, _, _, rfl⟩
      · intro d hd X C L
        obtain ⟨c, hc, rfl⟩ := List.mem_map.mp hd
        refine ⟨[.val (.str ⟨#[c]⟩)], rfl, Asn.name V 0 rfl (.inl rfl), Tss.nil, fun _ => ?_⟩
        apply Ev.call
        case hf => exact Ev.gname (v := .ref 145) V rfl (by kernel_rfl)
        case ha => exact EvL.cons (Ev.name 0 rfl rfl) EvL.nil
        case hk => exact Kept.ref (by kernel_rfl)
        case hc => exact Cl.qn1 (n := 2) V
        all_goals rfl
    · rw [List.filter_eq_self.mpr (fun _ _ => rfl), List.filter_eq_self.mpr (fun _ _ => rfl)]
      simp only [List.length_map, List.length_cons, List.length_nil, List.length_append]
      have : (S "vwxyz").cps.toList.length = 5 := by decide
      rw [this]
      exact Nat.le_trans (show _ ≤ 3 + 25 + 25 + 5 by omega) (by decide)
  have tl := tags_len rs
  refine Rt.ret ?_
  have e : (tagsOf rs).map thing = ((((tagsOf rs).map Tag.d).filter fun _ => true).map D.thing) := by
    rw [List.filter_eq_self.mpr (fun _ _ => rfl), List.map_map]; rfl
  rw [e]
  refine Ev.comp (caps := []) (tn := [S "tag"]) false V (p := fun _ => true) (g := D.thing) (It.lst V (Ev.name 3 rfl rfl)) ?_ rfl trivial ?_ (by rw [List.length_map]; exact Nat.le_trans tl (by decide))
  · intro d hd
    exact .inl ⟨rfl, _, _, rfl⟩
  · intro d hd X C L
    refine ⟨[.val d], rfl, Asn.name V 0 rfl (.inl rfl), Tss.nil, fun _ => ?_⟩
    apply Ev.call
    case hf => exact Ev.gname (v := .ref 180) V rfl (by kernel_rfl)
    case ha => exact EvL.cons (Ev.name 0 rfl rfl) EvL.nil
    case hk => exact Kept.ref (by kernel_rfl)
    case hc => exact (Cl.thing V).le (by first | decide | omega)
    all_goals rfl
end
end Mine
end
section -- S53
open PySem PySem.W PyProof.Rows PySem.Calls PySem.Spec
set_option Elab.async false
set_option maxRecDepth 100000
set_option linter.unusedVariables false
set_option autoImplicit false
set_option pp.maxSteps 600
namespace Mine
section
variable {W : Wd} {f : Fd} {ρ ρ' : List Vr} {μ : Mu} {n : Nat}

theorem slot_slice_init : Slot "slice" "__init__" "object.__init__" :=
  .of (owner := "object") (n := "__init__") (by rw [typeLookup_type, builtinLookup_eq_fast]; kernel_rfl) (by decide +kernel) (by decide +kernel) (by decide +kernel)
    (by first | exact .inl (by decide +kernel) | exact .inr (by decide +kernel)) (by rw [isSubtype_type]; kernel_rfl)
theorem mro_slice : mroOf (.type "slice") = pure [.type "slice", .type "object"] := by rw [mroOf_type]; kernel_rfl
theorem lookup_slice_new : typeLookup (.type "slice") "__new__" = pure (some (.builtin "slice.__new__")) := by rw [typeLookup_type, builtinLookup_eq_fast]; kernel_rfl
theorem called_slice : TypeCalled "slice" "slice.__new__" "object.__init__" :=
  ⟨by decide +kernel, by decide +kernel, ⟨_, _, mro_slice⟩, madeBy_type mro_slice lookup_slice_new (by decide +kernel), by decide +kernel, by rw [isSubtype_type]; kernel_rfl, slot_slice_init⟩
theorem typeCall_slice_2 (a b : Value) : checkTypeCall "slice" ⟨[a, b], []⟩ = pure () := by kernel_rfl
theorem newCall_slice_2 (a b : Value) : checkBuiltinCall "slice.__new__" ⟨[.type "slice", a, b], []⟩ = pure () := by kernel_rfl
theorem entry_slice_new : entryFor table "slice.__new__" = some Builtin.«slice.__new__» := PySem.entryFor_of_tree (by kernel_rfl)
theorem initArgs_slice_2 (obj a b : Value) : argsOk "object.__init__" ⟨[obj, a, b], []⟩ := PySem.F.initArgs_range_2 obj a b
theorem slice_new_2 (a b : Value) : Meets (Builtin.«slice.__new__» ⟨[.type "slice", a, b], []⟩) (fun _ R s => R (.ok (.ret (Value.ref s.heap.objs.size))) { s with heap := s.heap.push (sliceObj a b) }) :=
  .of_wp fun prog w A R s h => by
    have hsub := called_slice.sub
    unfold Builtin.«slice.__new__»
    repeat (any_goals (first | assumption | wp_step))
    exact ⟨_, rfl, h⟩
theorem Cl.slice {lo hi : Option Int} {d1 d2 : D} (V : W.Ok) (h1 : ∀ Y h v, D.Is Y h d1 v → PartIs lo v) (h2 : ∀ Y h v, D.Is Y h d2 v → PartIs hi v) : Cl W n (.type "slice") [d1, d2] (.slc lo hi) := by
  intro A r s Y vs I y il
  simp only [D.IsL] at il
  obtain ⟨v1, r1, rfl, i1, v2, r2, rfl, i2, rfl⟩ := il
  refine callType_new called_slice (by decide) (typeCall_slice_2 _ _) (newCall_slice_2 _ _) (fun obj => initArgs_slice_2 obj _ _) entry_slice_new (slice_new_2 _ _) ?_
  show _ ∧ _
  refine ⟨⟨_, Heap.get?_push_size _ rfl, rfl⟩, Kp.push _, I.push V _, ?_⟩
  simp only [D.Is]
  exact ⟨_, v1, v2, rfl, y.av V I (Nat.le_refl _), Heap.get?_push_size _ rfl, h1 _ _ _ i1, h2 _ _ _ i2⟩
theorem part_int {i : Int} : ∀ Y h v, D.Is Y h (.int i) v → PartIs (some i) v := fun Y h v x => D.Is.int_iff.mp x
theorem part_none : ∀ Y h v, D.Is Y h D.none v → PartIs none v := fun Y h v x => D.Is.val_iff.mp x
/-- x[s], s a slice object -/
theorem Ev.itemSl {value slice : Expr} {pos : Pos} {x : Str} {lo hi : Option Int} (h1 : Ev W n f ρ value (.str x)) (h2 : Ev W n f ρ slice (.slc lo hi)) (hsz : x.length ≤ 1000)
    (hs : ∀ o i, subscripted slice false o i = operate [o, i] (getItem o i) := by intro _ _; with_unfolding_all rfl) : Ev W n f ρ (.Subscript value slice pos) (.str (cutS x lo hi)) := by
  intro A r s μ I F
  refine subEv (T := "str") h1 h2 r I F PySem.F.slot_str_getitem.lookup (fun o i => .inl (hs o i)) fun v1 v2 s' k' I' F' i1 i2 => ?_
  simp only [D.Is] at i1 i2
  obtain ⟨u, rfl⟩ := i1
  obtain ⟨a, vl, vu, rfl, av, ho, pl, pu⟩ := i2
  obtain ⟨l, rfl, el⟩ := pl.val
  obtain ⟨uu, rfl, eu⟩ := pu.val
  refine ⟨typeIs_str s' x u, wpAny_getItem_str_slice (l := l) (u := uu) (st := none) ⟨_, ho, rfl, rfl⟩ rfl ?_⟩
  have e : slicePicked x l uu .none = Builtin.Str.strSliceIndices lo hi 1 x.length := by unfold slicePicked; rw [el, eu]; rfl
  unfold sliceMade
  rw [e]
  unfold cutS
  simp only [Option.map_none, Option.getD_none, beq_self_eq_true, Bool.true_and]
  split
  · exact ⟨k', I', D.Is.str⟩
  · refine ⟨?_, k'.trans0 (Kp.toks _ _), I', D.Is.str⟩
    show Array.size _ ≤ sizeLine
    rw [List.size_toArray]
    refine Nat.le_trans (List.length_filterMap_le _ _) (Nat.le_trans (indices_len_le _ _ _) ?_)
    unfold sizeLine; omega
end
end Mine
end
section -- S54
open PySem PySem.W PyProof.Rows PySem.Calls PySem.Spec
set_option Elab.async false
set_option maxRecDepth 100000
set_option linter.unusedVariables false
set_option autoImplicit false
set_option pp.maxSteps 600
namespace Mine
section
variable {W : Wd} {f : Fd} {ρ ρ' : List Vr} {μ : Mu} {n : Nat}

theorem ifGo {t : Expr} {body orelse : List Stmt} {pos : Pos} {b : Bool} {A : Around} {s : Shared} {Q : Flow → Shared → Prop} (r : Rm n A) (I : Inv W s.heap) (F : Fm W f ρ μ s.heap) (ht : Ts W n f ρ t b)
    (h : ∀ s1, Kp No s s1 → Inv W s1.heap → Fm W f ρ μ s1.heap → wpAny W.M A (execs (if b = true then body else orelse) f.env) Q Fz s1) : wpAny W.M A (exec (.If t body orelse pos) f.env) Q Fz s := by
  refine wpAny_If (wpAny_mono (ht A r s μ I F) (fun c s1 p => ?_) fun _ _ z => z)
  obtain ⟨rfl, k1, I1⟩ := p
  have := h s1 k1 I1 (F.step I k1)
  cases c with
  | true => simpa using this
  | false => simpa using this
theorem exGo {st : Stmt} {A : Around} {s : Shared} {Q : Flow → Shared → Prop} (r : Rm n A) (I : Inv W s.heap) (F : Fm W f ρ μ s.heap) (h : Ex W n f ρ st ρ') (hq : ∀ s1 μ1, Af W f μ s ρ' μ1 s1 → Q .next s1) : wpAny W.M A (exec st f.env) Q Fz s :=
  wpAny_mono (h A r s μ I F) (fun fl s1 p => by obtain ⟨rfl, μ1, a⟩ := p; exact hq s1 μ1 a) fun _ _ z => z
theorem Ev.unex {e : Expr} {v : Value} {d : D} (h : Ev W n f ρ e (.ex v d)) : Ev W n f ρ e d := fun A r s μ I F =>
  wpAny_mono (h A r s μ I F) (fun u s1 p => ⟨p.1, p.2.1, by have := p.2.2; simp only [D.Is] at this; exact this.2⟩) fun _ _ z => z
theorem ExM.assign {x : Str} {px : Pos} {e : Expr} {pos : Pos} {d : D} (i : Nat) (V : W.Ok) (he : Ev W n f ρ e d) (hx : f.nm[i]? = some x) (hk : f.env.kindOf x = some .local ∨ f.env.kindOf x = some .cell ∧ f.st = true)
    (hs : swapsWith e (some (.Name x px)) pos.line f.env = pure false := by rfl) : ExM W n f ρ (.Assign [.Name x px] e pos) (ρ.set i (.val d)) := by
  intro A r s μ I F
  refine wpAny_Assign_Name (hs := hs) (he.use r I F fun v s1 k1 I1 F1 i1 => ?_)
  exact sto V I1 F1 hx hk i1 fun s2 k2 I2 F2 => ⟨rfl, Af.pre k1 (.of k2 I2 F2)⟩
theorem GX.fgt {m : Nat} {p : Gp} {tv : Nat → Option Value} {f : Fd} {ρ ρ' ρ'' : List Vr} {sts : List Stmt} {outs : List Value} (h : GX W m p tv f ρ sts outs ρ') (g : Fgt ρ' ρ'') : GX W m p tv f ρ sts outs ρ'' :=
  fun A n s₀ s μ c fs K H gd lv r h1 h2 h3 h4 gs k => h A n s₀ s μ c fs K H gd lv r h1 h2 h3 h4 gs fun s₀' s' μ' g' fw => k s₀' s' μ' ⟨g'.kp, g'.inv, g'.fm.forget (fun i d e => g.get i _ e (by simp)) fun i B e => g.get i _ e (by simp), g'.zl, g'.new⟩ fw

/-- the things with their values -/
noncomputable def exs : List Tag → List Value → List D
  | t :: ts, v :: vs => .ex v (thing t) :: exs ts vs
  | _, _ => []
noncomputable def selO (sel : Tag → Bool) : List Tag → List Value → List (List Value)
  | t :: ts, v :: vs => (if sel t = true then [v] else []) :: selO sel ts vs
  | _, _ => []
theorem exs_len : ∀ {ts : List Tag} {vs : List Value}, vs.length = ts.length → (exs ts vs).length = ts.length
  | [], [], _ => rfl
  | t :: ts, v :: vs, h => by rw [exs, List.length_cons, exs_len (by simpa using h), List.length_cons]
theorem selO_len {sel : Tag → Bool} : ∀ {ts : List Tag} {vs : List Value}, vs.length = ts.length → (selO sel ts vs).length = ts.length
  | [], [], _ => rfl
  | t :: ts, v :: vs, h => by rw [selO, List.length_cons, selO_len (by simpa using h), List.length_cons]
theorem exs_get {sel : Tag → Bool} : ∀ {ts : List Tag} {vs : List Value} {i : Nat} {d : D} {o : List Value}, (exs ts vs)[i]? = some d → (selO sel ts vs)[i]? = some o → ∃ t v, t ∈ ts ∧ d = .ex v (thing t) ∧ o = if sel t = true then [v] else []
  | [], vs, i, d, o, h, _ => by simp [exs] at h
  | t :: ts, [], i, d, o, h, _ => by simp [exs] at h
  | t :: ts, v :: vs, 0, d, o, h, h2 => by simp [exs] at h; simp [selO] at h2; exact ⟨t, v, .head _, h.symm, h2.symm⟩
  | t :: ts, v :: vs, i + 1, d, o, h, h2 => by
    obtain ⟨t', v', h1, h3⟩ := exs_get (ts := ts) (vs := vs) (i := i) (by simpa [exs] using h) (by simpa [selO] using h2)
    exact ⟨t', v', .tail _ h1, h3⟩
theorem exs_is {Y : Addr → Prop} {h : Heap} : ∀ {ts : List Tag} {vs : List Value}, D.IsL Y h (ts.map thing) vs → D.IsL Y h (exs ts vs) vs
  | [], vs, x => by simp only [List.map_nil, D.IsL] at x; subst x; exact D.IsL.nil
  | t :: ts, vs, x => by
    simp only [List.map_cons, D.IsL] at x
    obtain ⟨v, r, rfl, i, il⟩ := x
    rw [exs]
    exact D.IsL.cons (by simp only [D.Is]; exact ⟨trivial, by simpa only [D.Is] using i⟩) (exs_is il)
/-- a value that is a chooser of things -/
noncomputable def SelP (W : Wd) (Y : Addr → Prop) (h : Heap) (v : Value) (sel : Tag → Bool) : Prop :=
  ∃ sc body ps un caps, Sel Y h v sc body ps caps ∧ ps.length = 2 ∧ (∀ x ∈ sc.names, x.2 ≠ .cell) ∧ (∀ x ∈ ps, sc.names.lookup x = some .local) ∧ (∀ q ∈ caps, sc.names.lookup q.1 = some .free) ∧ sc.isGenerator = true ∧ sc.isCoroutine = false ∧ sc.kind = .function ∧
    (ps ++ (un ++ caps.map (·.1))).Nodup ∧ ∀ (ts : List Tag) (vs : List Value), vs.length = ts.length → (∀ x, .str x ∈ ts → x.length ≤ 1000) → ∀ X L cl qual fa code p, (∀ b, p.Oc b → X b) →
      ∃ ρ', GX W 4 p (fun k => (selO sel ts vs).flatten.reverse[k]?) (fdG sc cl qual fa code (ps ++ (un ++ caps.map (·.1))) X L) (ρG [D.none, .lst (exs ts vs)] un.length caps) body (selO sel ts vs).flatten ρ'

noncomputable def selA (i : Nat) : Tag → Bool
  | .none => false
  | .str x => (x == let1 i) || (cutS x (some (-2)) none == S "}" ++ let1 i)
  | .qn x => x == let1 i
noncomputable def selB (i : Nat) : Tag → Bool
  | .none => false
  | .str x => cutS x none (some 3) == S "{" ++ let1 i ++ S "}"
  | .qn _ => false
theorem tA_facts {i : Nat} (h : i < 5) : (S "{*}" ++ let1 i == S "{*}*") = false ∧ (S "{*}" ++ let1 i == S "{}*") = false ∧ (cutS (S "{*}" ++ let1 i) none (some 3) == S "{*}") = true ∧ cutS (S "{*}" ++ let1 i) (some 2) none = S "}" ++ let1 i ∧ cutS (S "{*}" ++ let1 i) (some 3) none = let1 i := by
  have : ∀ i : Fin 5, (S "{*}" ++ let1 i == S "{*}*") = false ∧ (S "{*}" ++ let1 i == S "{}*") = false ∧ (cutS (S "{*}" ++ let1 i) none (some 3) == S "{*}") = true ∧ cutS (S "{*}" ++ let1 i) (some 2) none = S "}" ++ let1 i ∧ cutS (S "{*}" ++ let1 i) (some 3) none = let1 i := by decide +kernel
  exact this ⟨i, h⟩
noncomputable abbrev tB (i : Nat) : Str := S "{" ++ let1 i ++ S "}*"
theorem tB_facts {i : Nat} (h : i < 5) : (tB i == S "{*}*") = false ∧ (tB i == S "{}*") = false ∧ (cutS (tB i) none (some 3) == S "{*}") = false ∧ (cutS (tB i) (some (-2)) none == S "}*") = true ∧ cutS (tB i) none (some (-1)) = S "{" ++ let1 i ++ S "}" := by
  have : ∀ i : Fin 5, (tB i == S "{*}*") = false ∧ (tB i == S "{}*") = false ∧ (cutS (tB i) none (some 3) == S "{*}") = false ∧ (cutS (tB i) (some (-2)) none == S "}*") = true ∧ cutS (tB i) none (some (-1)) = S "{" ++ let1 i ++ S "}" := by decide +kernel
  exact this ⟨i, h⟩
end
end Mine
end
section -- S55
open PySem PySem.W PyProof.Rows PySem.Calls PySem.Spec
set_option Elab.async false
set_option maxRecDepth 100000
set_option linter.unusedVariables false
set_option autoImplicit false
set_option pp.maxSteps 600
namespace Mine
section
variable {W : Wd} {f : Fd} {ρ ρ' : List Vr} {μ : Mu} {n : Nat}

noncomputable abbrev nmPT : List Str := [S "tag", S "_isinstance", S "_str", S "suffix", S "no_ns", S "ns", S "ns_only", S "select"]
set_option maxHeartbeats 4000000 in
theorem c_prepA {i : Nat} (hi : i < 5) (V : W.Ok) {A : Around} (r : Rm 6 A) {s : Shared} {Y : Addr → Prop} {vs : List Value} (I : Inv W s.heap) (y : Yk W Y s.heap) (il : D.IsL Y s.heap [.str (S "{*}" ++ let1 i)] vs) :
    wpAny W.M A (call (.ref 28) vs) (fun v s' => Kp No s s' ∧ Inv W s'.heap ∧ SelP W Y s'.heap v (selA i)) Fz s := by
  have hl := il.length
  rcases vs with _ | ⟨v0, _ | _⟩ <;> simp at hl
  obtain ⟨f1, f2, f3, f4, f5⟩ := tA_facts hi
  have hlen : (S "{*}" ++ let1 i).length ≤ 1000 := by
    have h3 : (S "{*}").length = 3 := by decide
    have h4 : (let1 i).length = 1 := rfl
    rw [Str.length_append, h3, h4]; decide
  have hl2 : (S "}" ++ let1 i).length ≤ 1000 := by
    have h3 : (S "}").length = 1 := by decide
    have h4 : (let1 i).length = 1 := rfl
    rw [Str.length_append, h3, h4]; decide
  refine wpAny_call (fnGo (nm := nmPT) (k := 7) V r.depth I y il ⟨_, I.K _ _ rfl, rfl⟩ (cdAt rfl rfl rfl rfl _ I) rfl rfl rfl rfl (bindsAt (fun S' => by rfl) s I) (by decide) (by simp) (by decide +kernel) (fun s1 μ0 k1 I1 hz F1 => ?_))
  refine wpAny_mono (E := Fz) (Q := fun fl s' => ∃ v, fl = .ret v ∧ Kp μ0.Z s1 s' ∧ Inv W s'.heap ∧ SelP W Y s'.heap v (selA i)) ?_ (fun fl s' p => by obtain ⟨v, rfl, kp, I', sp⟩ := p; exact ⟨k1.trans kp fun b z => .inr (hz b z), I', sp⟩) fun _ _ z => z.elim
  have r5 : ∀ env, Rm 5 (A.deeper env) := fun env => r.deeper env
  refine wpAny_execs_cons (exGo (r5 _) I1 F1 (exAssignT (d := .tup [.val (.builtin "isinstance"), .val (.type "str")]) (Ev.tup V (EvL.cons (Ev.bname (v := .builtin "isinstance") V rfl (by kernel_rfl) (by decide +kernel)) (EvL.cons (Ev.bname (v := .type "str") V rfl (by kernel_rfl) (by decide +kernel)) EvL.nil)) (by show 2 ≤ sizeLine; decide)) (Asn.tuple V (.cons (Asn.name V 1 rfl (.inr ⟨rfl, rfl⟩)) rfl (.cons (Asn.name V 2 rfl (.inr ⟨rfl, rfl⟩)) rfl .nil)))) fun s2 μ2 a2 => ?_)
  refine wpAny_execs_cons (ifGo (r5 _) a2.inv a2.fm (Ts.conv (Ts.cmp (Ev.name 0 rfl rfl) Ev.str F2.eqS) f1) fun s3 k3 I3 F3 => ?_)
  rw [if_neg (by decide)]
  refine wpAny_execs_cons (ifGo (r5 _) I3 F3 (Ts.conv (Ts.cmp (Ev.name 0 rfl rfl) Ev.str F2.eqS) f2) fun s4 k4 I4 F4 => ?_)
  rw [if_neg (by decide)]
  refine wpAny_execs_cons (ifGo (r5 _) I4 F4 (Ts.conv (Ts.cmp (Ev.sliceS V (Ev.name 0 rfl rfl) EvP.none (EvP.some Ev.int) hlen) Ev.str F2.eqS) f3) fun s5 k5 I5 F5 => ?_)
  rw [if_pos rfl]
  refine wpAny_execs_cons (exGo (r5 _) I5 F5 (Ex.assign (d := .str (S "}" ++ let1 i)) 3 V (Ev.conv (Ev.sliceS V (Ev.name 0 rfl rfl) (EvP.some Ev.int) EvP.none hlen) (by rw [f4])) rfl (.inr ⟨rfl, rfl⟩)) fun s6 μ6 a6 => ?_)
  refine wpAny_execs_cons (exGo (r5 _) a6.inv a6.fm (Ex.assign (d := .slc (some (-2)) none) 4 V ?sl rfl (.inr ⟨rfl, rfl⟩)) fun s7 μ7 a7 => ?_)
  case sl =>
    apply Ev.call
    case hf => exact Ev.bname (v := .type "slice") V rfl (by kernel_rfl) (by decide +kernel)
    case ha => exact EvL.cons (d := .int (-2)) (Ev.neg (a := 2) (by apply Ev.call; (case hf => exact Ev.bname (v := .builtin "len") V rfl (by kernel_rfl) (by decide +kernel)); (case ha => exact EvL.cons (Ev.name 3 rfl rfl) EvL.nil); (case hk => exact Kept.builtin); (case hc => exact Cl.lenS (x := S "}" ++ let1 i) hl2); all_goals rfl)) (EvL.cons Ev.noneC EvL.nil)
    case hk => exact Kept.type
    case hc => exact Cl.slice V part_int part_none
    all_goals rfl
  refine wpAny_execs_cons (exGo (r5 _) a7.inv a7.fm (Ex.assign (d := .str (let1 i)) 0 V (Ev.conv (Ev.sliceS V (Ev.name 0 rfl rfl) (EvP.some Ev.int) EvP.none hlen) (by rw [f5])) rfl (.inr ⟨rfl, rfl⟩)) fun s8 μ8 a8 => ?_)
  refine wpAny_execs_cons (defGo (c := 27) (P := 23) (qual := Str.ofString "_prepare_tag.<locals>.select") (i := 7) V a8.inv a8.fm (by simp [tabsL]) (by kernel_rfl) rfl rfl (by with_unfolding_all rfl) rfl (.inl rfl) rfl rfl rfl fun fa doc pm code ctv s9 g1 g2 g3 g4 k9 I9 F9 => ?_)
  refine wpAny_execs_nil (wpAny_execs_nil (wpAny_execs_nil (wpAny_execs_cons (wpAny_Return_some ((Ev.name (n := 5) 7 rfl rfl).use (r5 _) I9 F9 fun v s10 k10 I10 F10 i10 => ?_)))))
  obtain rfl := D.Is.val_iff.mp i10
  have b8 := ((a2.trans (Af.pre k3 (Af.pre k4 (Af.pre k5 a6)))).trans a7).trans a8
  have hkp : Kp μ0.Z s1 s10 := (b8.kp.trans k9 b8.grow).trans k10 fun _ z => z.elim
  refine ⟨_, rfl, hkp, I10, ?_⟩
  have cap : ∀ (j : Nat) (x : Str) (d : D), nmPT[j]? = some x → [Vr.val (.str (let1 i)), .val (.val (.builtin "isinstance")), .val (.val (.type "str")), .val (.str (S "}" ++ let1 i)), .val (.slc (some (-2)) none), .un, .un, .val (.val (.ref fa))][j]? = some (Vr.val d) → ∃ u, Has _ s10.heap x u ∧ D.Is Y s10.heap d u := fun j x d hx hd =>
    let ⟨u, H, iu⟩ := F10.val j x d hx hd; ⟨u, H, iu.drop fun _ z => .inl z⟩
  obtain ⟨u1, H1, i1⟩ := cap 1 _ _ rfl rfl
  obtain ⟨u2, H2, i2⟩ := cap 2 _ _ rfl rfl
  obtain ⟨u3, H3, i3⟩ := cap 4 _ _ rfl rfl
  obtain ⟨u4, H4, i4⟩ := cap 3 _ _ rfl rfl
  obtain ⟨u5, H5, i5⟩ := cap 0 _ _ rfl rfl
  refine ⟨_, _, [S "context", S "result"], [S "elem", S "el_tag"], [(S "_isinstance", .val (.builtin "isinstance")), (S "_str", .val (.type "str")), (S "no_ns", .slc (some (-2)) none), (S "suffix", .str (S "}" ++ let1 i)), (S "tag", .str (let1 i))],
    ⟨fa, _, _, rfl, k10.keep _ _ g3 (fun z => z) (cls_notab I9 g3 (by simp)), g4.step k10.code, rfl, rfl, rfl, rfl, fun ws hw => ?_, fun q hq => ?_⟩, rfl, scopeOk.cell ?hsc, scopeOk.loc ?hsc, fun q hq => scopeOk.cap (caps := [S "_isinstance", S "_str", S "no_ns", S "suffix", S "tag"]) ?hsc q.1 (List.mem_map_of_mem (f := Prod.fst) hq), rfl, rfl, rfl, (show ([S "context", S "result", S "elem", S "el_tag", S "_isinstance", S "_str", S "no_ns", S "suffix", S "tag"] : List Str).Nodup by decide +kernel), ?_⟩
  case hsc => rfl
  · rcases ws with _ | ⟨w0, _ | ⟨w1, _ | _⟩⟩ <;> simp at hw
    rfl
  · simp only [List.mem_cons, List.not_mem_nil, or_false] at hq
    rcases hq with rfl | rfl | rfl | rfl | rfl
    · exact ⟨_, u1, rfl, H1.cell rfl rfl, i1⟩
    · exact ⟨_, u2, rfl, H2.cell rfl rfl, i2⟩
    · exact ⟨_, u3, rfl, H3.cell rfl rfl, i3⟩
    · exact ⟨_, u4, rfl, H4.cell rfl rfl, i4⟩
    · exact ⟨_, u5, rfl, H5.cell rfl rfl, i5⟩
  · intro ts ws hlw hx X L cl qual fa' code' p hOX
    refine ⟨ρG [D.none, .lst (exs ts ws)] 2 [(S "_isinstance", .val (.builtin "isinstance")), (S "_str", .val (.type "str")), (S "no_ns", .slc (some (-2)) none), (S "suffix", .str (S "}" ++ let1 i)), (S "tag", .str (let1 i))], ?_⟩
    rw [← List.append_nil (selO (selA i) ts ws).flatten]
    refine GX.cons (GX1.forIn (oo := selO (selA i) ts ws) (ds := exs ts ws) false V hOX (fun _ => ρG [D.none, .lst (exs ts ws)] 2 [(S "_isinstance", .val (.builtin "isinstance")), (S "_str", .val (.type "str")), (S "no_ns", .slc (some (-2)) none), (S "suffix", .str (S "}" ++ let1 i)), (S "tag", .str (let1 i))]) (It.lst V (Ev.name 1 rfl rfl)) (fun d hd => .inl ⟨rfl, _, _, rfl⟩) (by rw [selO_len hlw, exs_len hlw]) ?_) GX.nil
    intro k d o hd ho X' hX'
    obtain ⟨t, v, ht, rfl, rfl⟩ := exs_get hd ho
    have hh : Handed t.d := by
      cases t with
      | none => exact Handed.none
      | str x => exact Handed.str
      | qn x => exact Handed.qn
    refine ⟨_, Asn.name V 2 rfl (.inl rfl), ?_⟩
    have e : (if selA i t = true then [v] else []) = [] ++ ((if selA i t = true then [v] else []) ++ []) := by simp
    rw [e]
    refine GX.fgt (GX.cons (GX1.plain (ExM.assign (d := t.d) 3 V (Ev.tag (Ev.unex (Ev.name 2 rfl rfl)) hh) rfl (.inl rfl))) (GX.cons (GX1.ife (ρ' := ((ρG [D.none, .lst (exs ts ws)] 2 [(S "_isinstance", .val (.builtin "isinstance")), (S "_str", .val (.type "str")), (S "no_ns", .slc (some (-2)) none), (S "suffix", .str (S "}" ++ let1 i)), (S "tag", .str (let1 i))]).set 2 (.val (.ex v (thing t)))).set 3 (.val t.d)) (b := selA i t) ?test (fun hb => ?_) (fun hb => ?_)) GX.nil)) ?fg
    case fg => exact ⟨.inr rfl, .inr rfl, .inl rfl, .inl rfl, .inr rfl, .inr rfl, .inr rfl, .inr rfl, .inr rfl, trivial⟩
    case test =>
      cases t with
      | none =>
        refine Ts.conv (Ts.or (b1 := false) (b2 := false) (Ts.cmp (Ev.name 3 rfl rfl) (Ev.name 8 rfl rfl) F2.eqNS) (fun _ => Ts.and (b1 := false) (b2 := false) (Ts.ev (d := D.bool false) (by apply Ev.call; (case hf => exact Ev.name 4 rfl rfl); (case ha => exact EvL.cons (Ev.name 3 rfl rfl) (EvL.cons (Ev.name 5 rfl rfl) EvL.nil)); (case hk => exact Kept.builtin); (case hc => exact Cl.isStrN); all_goals rfl) Fb.bool) (fun h => by cases h))) rfl
      | str x =>
        refine Ts.or (Ts.cmp (Ev.name 3 rfl rfl) (Ev.name 8 rfl rfl) F2.eqS) (fun _ => Ts.conv (Ts.and (b1 := true) (b2 := cutS x (some (-2)) none == S "}" ++ let1 i) (Ts.ev (d := D.bool true) (by apply Ev.call; (case hf => exact Ev.name 4 rfl rfl); (case ha => exact EvL.cons (Ev.name 3 rfl rfl) (EvL.cons (Ev.name 5 rfl rfl) EvL.nil)); (case hk => exact Kept.builtin); (case hc => exact Cl.isStr); all_goals rfl) Fb.bool) (fun _ => Ts.cmp (Ev.itemSl (Ev.name 3 rfl rfl) (Ev.name 6 rfl rfl) (hx x ht)) (Ev.name 7 rfl rfl) F2.eqS)) (Bool.true_and _))
      | qn x =>
        refine Ts.conv (Ts.or (b1 := x == let1 i) (b2 := false) (Ts.cmp (Ev.name 3 rfl rfl) (Ev.name 8 rfl rfl) (F2.eqQ (.inr rfl) V)) (fun _ => Ts.and (b1 := false) (b2 := false) (Ts.ev (d := D.bool false) (by apply Ev.call; (case hf => exact Ev.name 4 rfl rfl); (case ha => exact EvL.cons (Ev.name 3 rfl rfl) (EvL.cons (Ev.name 5 rfl rfl) EvL.nil)); (case hk => exact Kept.builtin); (case hc => exact Cl.isStrQ); all_goals rfl) Fb.bool) (fun h => by cases h))) (Bool.or_false _)
    · rw [if_pos hb]
      exact GX.cons (o2 := []) (GX1.yield hX' (Ev.name 2 rfl rfl)) GX.nil
    · rw [if_neg (by rw [hb]; decide)]
      exact GX.nil
end
end Mine
end
section -- S56
open PySem PySem.W PyProof.Rows PySem.Calls PySem.Spec
set_option Elab.async false
set_option maxRecDepth 100000
set_option linter.unusedVariables false
set_option autoImplicit false
set_option pp.maxSteps 600
namespace Mine
section
variable {W : Wd} {f : Fd} {ρ ρ' : List Vr} {μ : Mu} {n : Nat}

set_option maxHeartbeats 4000000 in
theorem c_prepB {i : Nat} (hi : i < 5) (V : W.Ok) {A : Around} (r : Rm 6 A) {s : Shared} {Y : Addr → Prop} {vs : List Value} (I : Inv W s.heap) (y : Yk W Y s.heap) (il : D.IsL Y s.heap [.str (tB i)] vs) :
    wpAny W.M A (call (.ref 28) vs) (fun v s' => Kp No s s' ∧ Inv W s'.heap ∧ SelP W Y s'.heap v (selB i)) Fz s := by
  have hl := il.length
  rcases vs with _ | ⟨v0, _ | _⟩ <;> simp at hl
  obtain ⟨f1, f2, f3, f4, f5⟩ := tB_facts hi
  have hlen : (tB i).length ≤ 1000 := by
    have h3 : (S "{").length = 1 := by decide
    have h4 : (let1 i).length = 1 := rfl
    have h5 : (S "}*").length = 2 := by decide
    rw [Str.length_append, Str.length_append, h3, h4, h5]; decide
  have hl3 : (S "{" ++ let1 i ++ S "}").length = 3 := by
    have h3 : (S "{").length = 1 := by decide
    have h4 : (let1 i).length = 1 := rfl
    have h5 : (S "}").length = 1 := by decide
    rw [Str.length_append, Str.length_append, h3, h4, h5]
  have hl2 : (S "{" ++ let1 i ++ S "}").length ≤ 1000 := by rw [hl3]; decide
  refine wpAny_call (fnGo (nm := nmPT) (k := 7) V r.depth I y il ⟨_, I.K _ _ rfl, rfl⟩ (cdAt rfl rfl rfl rfl _ I) rfl rfl rfl rfl (bindsAt (fun S' => by rfl) s I) (by decide) (by simp) (by decide +kernel) (fun s1 μ0 k1 I1 hz F1 => ?_))
  refine wpAny_mono (E := Fz) (Q := fun fl s' => ∃ v, fl = .ret v ∧ Kp μ0.Z s1 s' ∧ Inv W s'.heap ∧ SelP W Y s'.heap v (selB i)) ?_ (fun fl s' p => by obtain ⟨v, rfl, kp, I', sp⟩ := p; exact ⟨k1.trans kp fun b z => .inr (hz b z), I', sp⟩) fun _ _ z => z.elim
  have r5 : ∀ env, Rm 5 (A.deeper env) := fun env => r.deeper env
  refine wpAny_execs_cons (exGo (r5 _) I1 F1 (exAssignT (d := .tup [.val (.builtin "isinstance"), .val (.type "str")]) (Ev.tup V (EvL.cons (Ev.bname (v := .builtin "isinstance") V rfl (by kernel_rfl) (by decide +kernel)) (EvL.cons (Ev.bname (v := .type "str") V rfl (by kernel_rfl) (by decide +kernel)) EvL.nil)) (by show 2 ≤ sizeLine; decide)) (Asn.tuple V (.cons (Asn.name V 1 rfl (.inr ⟨rfl, rfl⟩)) rfl (.cons (Asn.name V 2 rfl (.inr ⟨rfl, rfl⟩)) rfl .nil)))) fun s2 μ2 a2 => ?_)
  refine wpAny_execs_cons (ifGo (r5 _) a2.inv a2.fm (Ts.conv (Ts.cmp (Ev.name 0 rfl rfl) Ev.str F2.eqS) f1) fun s3 k3 I3 F3 => ?_)
  rw [if_neg (by decide)]
  refine wpAny_execs_cons (ifGo (r5 _) I3 F3 (Ts.conv (Ts.cmp (Ev.name 0 rfl rfl) Ev.str F2.eqS) f2) fun s4 k4 I4 F4 => ?_)
  rw [if_neg (by decide)]
  refine wpAny_execs_cons (ifGo (r5 _) I4 F4 (Ts.conv (Ts.cmp (Ev.sliceS V (Ev.name 0 rfl rfl) EvP.none (EvP.some Ev.int) hlen) Ev.str F2.eqS) f3) fun s5 k5 I5 F5 => ?_)
  rw [if_neg (by decide)]
  refine wpAny_execs_cons (ifGo (r5 _) I5 F5 (Ts.conv (Ts.cmp (Ev.sliceS V (Ev.name 0 rfl rfl) (EvP.some (Ev.neg Ev.int)) EvP.none hlen) Ev.str F2.eqS) f4) fun s6 k6 I6 F6 => ?_)
  rw [if_pos rfl]
  refine wpAny_execs_cons (exGo (r5 _) I6 F6 (Ex.assign (d := .str (S "{" ++ let1 i ++ S "}")) 5 V (Ev.conv (Ev.sliceS V (Ev.name 0 rfl rfl) EvP.none (EvP.some (Ev.neg Ev.int)) hlen) (by rw [f5])) rfl (.inr ⟨rfl, rfl⟩)) fun s7 μ7 a7 => ?_)
  refine wpAny_execs_cons (exGo (r5 _) a7.inv a7.fm (Ex.assign (d := .slc none (some 3)) 6 V ?sl rfl (.inr ⟨rfl, rfl⟩)) fun s8 μ8 a8 => ?_)
  case sl =>
    apply Ev.call
    case hf => exact Ev.bname (v := .type "slice") V rfl (by kernel_rfl) (by decide +kernel)
    case ha => exact EvL.cons Ev.noneC (EvL.cons (d := .int 3) (Ev.conv (by apply Ev.call; (case hf => exact Ev.bname (v := .builtin "len") V rfl (by kernel_rfl) (by decide +kernel)); (case ha => exact EvL.cons (Ev.name 5 rfl rfl) EvL.nil); (case hk => exact Kept.builtin); (case hc => exact Cl.lenS (x := S "{" ++ let1 i ++ S "}") hl2); all_goals rfl) (by rw [hl3]; rfl)) EvL.nil)
    case hk => exact Kept.type
    case hc => exact Cl.slice V part_none part_int
    all_goals rfl
  refine wpAny_execs_cons (defGo (c := 27) (P := 23) (qual := Str.ofString "_prepare_tag.<locals>.select") (i := 7) V a8.inv a8.fm (by simp [tabsL]) (by kernel_rfl) rfl rfl (by with_unfolding_all rfl) rfl (.inl rfl) rfl rfl rfl fun fa doc pm code ctv s9 g1 g2 g3 g4 k9 I9 F9 => ?_)
  refine wpAny_execs_nil (wpAny_execs_nil (wpAny_execs_nil (wpAny_execs_nil (wpAny_execs_cons (wpAny_Return_some ((Ev.name (n := 5) 7 rfl rfl).use (r5 _) I9 F9 fun v s10 k10 I10 F10 i10 => ?_))))))
  obtain rfl := D.Is.val_iff.mp i10
  have b8 := (a2.trans (Af.pre k3 (Af.pre k4 (Af.pre k5 (Af.pre k6 a7))))).trans a8
  have hkp : Kp μ0.Z s1 s10 := (b8.kp.trans k9 b8.grow).trans k10 fun _ z => z.elim
  refine ⟨_, rfl, hkp, I10, ?_⟩
  have cap : ∀ (j : Nat) (x : Str) (d : D), nmPT[j]? = some x → [Vr.val (.str (tB i)), .val (.val (.builtin "isinstance")), .val (.val (.type "str")), .un, .un, .val (.str (S "{" ++ let1 i ++ S "}")), .val (.slc none (some 3)), .val (.val (.ref fa))][j]? = some (Vr.val d) → ∃ u, Has _ s10.heap x u ∧ D.Is Y s10.heap d u := fun j x d hx hd =>
    let ⟨u, H, iu⟩ := F10.val j x d hx hd; ⟨u, H, iu.drop fun _ z => .inl z⟩
  obtain ⟨u1, H1, i1⟩ := cap 1 _ _ rfl rfl
  obtain ⟨u2, H2, i2⟩ := cap 2 _ _ rfl rfl
  obtain ⟨u3, H3, i3⟩ := cap 5 _ _ rfl rfl
  obtain ⟨u4, H4, i4⟩ := cap 6 _ _ rfl rfl
  refine ⟨_, _, [S "context", S "result"], [S "elem", S "el_tag"], [(S "_isinstance", .val (.builtin "isinstance")), (S "_str", .val (.type "str")), (S "ns", .str (S "{" ++ let1 i ++ S "}")), (S "ns_only", .slc none (some 3))],
    ⟨fa, _, _, rfl, k10.keep _ _ g3 (fun z => z) (cls_notab I9 g3 (by simp)), g4.step k10.code, rfl, rfl, rfl, rfl, fun ws hw => ?_, fun q hq => ?_⟩, rfl, scopeOk.cell ?hsc, scopeOk.loc ?hsc, fun q hq => scopeOk.cap (caps := [S "_isinstance", S "_str", S "ns", S "ns_only"]) ?hsc q.1 (List.mem_map_of_mem (f := Prod.fst) hq), rfl, rfl, rfl, (show ([S "context", S "result", S "elem", S "el_tag", S "_isinstance", S "_str", S "ns", S "ns_only"] : List Str).Nodup by decide +kernel), ?_⟩
  case hsc => rfl
  · rcases ws with _ | ⟨w0, _ | ⟨w1, _ | _⟩⟩ <;> simp at hw
    rfl
  · simp only [List.mem_cons, List.not_mem_nil, or_false] at hq
    rcases hq with rfl | rfl | rfl | rfl
    · exact ⟨_, u1, rfl, H1.cell rfl rfl, i1⟩
    · exact ⟨_, u2, rfl, H2.cell rfl rfl, i2⟩
    · exact ⟨_, u3, rfl, H3.cell rfl rfl, i3⟩
    · exact ⟨_, u4, rfl, H4.cell rfl rfl, i4⟩
  · intro ts ws hlw hx X L cl qual fa' code' p hOX
    refine ⟨ρG [D.none, .lst (exs ts ws)] 2 [(S "_isinstance", .val (.builtin "isinstance")), (S "_str", .val (.type "str")), (S "ns", .str (S "{" ++ let1 i ++ S "}")), (S "ns_only", .slc none (some 3))], ?_⟩
    rw [← List.append_nil (selO (selB i) ts ws).flatten]
    refine GX.cons (GX1.forIn (oo := selO (selB i) ts ws) (ds := exs ts ws) false V hOX (fun _ => ρG [D.none, .lst (exs ts ws)] 2 [(S "_isinstance", .val (.builtin "isinstance")), (S "_str", .val (.type "str")), (S "ns", .str (S "{" ++ let1 i ++ S "}")), (S "ns_only", .slc none (some 3))]) (It.lst V (Ev.name 1 rfl rfl)) (fun d hd => .inl ⟨rfl, _, _, rfl⟩) (by rw [selO_len hlw, exs_len hlw]) ?_) GX.nil
    intro k d o hd ho X' hX'
    obtain ⟨t, v, ht, rfl, rfl⟩ := exs_get hd ho
    have hh : Handed t.d := by
      cases t with
      | none => exact Handed.none
      | str x => exact Handed.str
      | qn x => exact Handed.qn
    refine ⟨_, Asn.name V 2 rfl (.inl rfl), ?_⟩
    have e : (if selB i t = true then [v] else []) = [] ++ ((if selB i t = true then [v] else []) ++ []) := by simp
    rw [e]
    refine GX.fgt (GX.cons (GX1.plain (ExM.assign (d := t.d) 3 V (Ev.tag (Ev.unex (Ev.name 2 rfl rfl)) hh) rfl (.inl rfl))) (GX.cons (GX1.ife (ρ' := ((ρG [D.none, .lst (exs ts ws)] 2 [(S "_isinstance", .val (.builtin "isinstance")), (S "_str", .val (.type "str")), (S "ns", .str (S "{" ++ let1 i ++ S "}")), (S "ns_only", .slc none (some 3))]).set 2 (.val (.ex v (thing t)))).set 3 (.val t.d)) (b := selB i t) ?test (fun hb => ?_) (fun hb => ?_)) GX.nil)) ?fg
    case fg => exact ⟨.inr rfl, .inr rfl, .inl rfl, .inl rfl, .inr rfl, .inr rfl, .inr rfl, .inr rfl, trivial⟩
    case test =>
      cases t with
      | none =>
        exact Ts.conv (Ts.and (b1 := false) (b2 := false) (Ts.ev (d := D.bool false) (by apply Ev.call; (case hf => exact Ev.name 4 rfl rfl); (case ha => exact EvL.cons (Ev.name 3 rfl rfl) (EvL.cons (Ev.name 5 rfl rfl) EvL.nil)); (case hk => exact Kept.builtin); (case hc => exact Cl.isStrN); all_goals rfl) Fb.bool) (fun h => by cases h)) rfl
      | str x =>
        exact Ts.conv (Ts.and (b1 := true) (b2 := cutS x none (some 3) == S "{" ++ let1 i ++ S "}") (Ts.ev (d := D.bool true) (by apply Ev.call; (case hf => exact Ev.name 4 rfl rfl); (case ha => exact EvL.cons (Ev.name 3 rfl rfl) (EvL.cons (Ev.name 5 rfl rfl) EvL.nil)); (case hk => exact Kept.builtin); (case hc => exact Cl.isStr); all_goals rfl) Fb.bool) (fun _ => Ts.cmp (Ev.itemSl (Ev.name 3 rfl rfl) (Ev.name 7 rfl rfl) (hx x ht)) (Ev.name 6 rfl rfl) F2.eqS)) (Bool.true_and _)
      | qn x =>
        exact Ts.conv (Ts.and (b1 := false) (b2 := false) (Ts.ev (d := D.bool false) (by apply Ev.call; (case hf => exact Ev.name 4 rfl rfl); (case ha => exact EvL.cons (Ev.name 3 rfl rfl) (EvL.cons (Ev.name 5 rfl rfl) EvL.nil)); (case hk => exact Kept.builtin); (case hc => exact Cl.isStrQ); all_goals rfl) Fb.bool) (fun h => by cases h)) rfl
    · rw [if_pos hb]
      exact GX.cons (o2 := []) (GX1.yield hX' (Ev.name 2 rfl rfl)) GX.nil
    · rw [if_neg (by rw [hb]; decide)]
      exact GX.nil
end
end Mine
end
section -- S57
open PySem PySem.W PyProof.Rows PySem.Calls PySem.Spec
set_option Elab.async false
set_option maxRecDepth 100000
set_option linter.unusedVariables false
set_option autoImplicit false
set_option pp.maxSteps 600
namespace Mine
section
variable {W : Wd} {f : Fd} {ρ ρ' : List Vr} {μ : Mu} {n : Nat}

/-- a value that is a chooser: of the data mk a it gives out a -/
noncomputable def SelG (W : Wd) (Y : Addr → Prop) (h : Heap) (v : Value) {α : Type} (mk : α → D) (out : α → List Value) (ok : α → Prop) : Prop :=
  ∃ sc body ps un caps, Sel Y h v sc body ps caps ∧ ps.length = 2 ∧ (∀ x ∈ sc.names, x.2 ≠ .cell) ∧ (∀ x ∈ ps, sc.names.lookup x = some .local) ∧ (∀ q ∈ caps, sc.names.lookup q.1 = some .free) ∧ sc.isGenerator = true ∧ sc.isCoroutine = false ∧ sc.kind = .function ∧
    (ps ++ (un ++ caps.map (·.1))).Nodup ∧ ∀ a : α, ok a → ∀ X L cl qual fa code p, (∀ b, p.Oc b → X b) →
      ∃ ρ', GX W 4 p (fun k => (out a).reverse[k]?) (fdG sc cl qual fa code (ps ++ (un ++ caps.map (·.1))) X L) (ρG [D.none, mk a] un.length caps) body (out a) ρ'
theorem SelP.toG {Y : Addr → Prop} {h : Heap} {v : Value} {sel : Tag → Bool} (x : SelP W Y h v sel) :
    SelG W Y h v (α := List Tag × List Value) (fun q => .lst (exs q.1 q.2)) (fun q => (selO sel q.1 q.2).flatten) fun q => q.2.length = q.1.length ∧ ∀ x, .str x ∈ q.1 → x.length ≤ 1000 := by
  obtain ⟨sc, body, ps, un, caps, h1, h2, h3, h4, h5, h6, h7, h8, h9, h10⟩ := x
  exact ⟨sc, body, ps, un, caps, h1, h2, h3, h4, h5, h6, h7, h8, h9, fun q hq => h10 q.1 q.2 hq.1 hq.2⟩
noncomputable def selC (tgt : Str) : Tag → Bool
  | .none => false
  | .str x => x == tgt
  | .qn x => x == tgt
noncomputable abbrev PV := List (List Tag × List Value)
noncomputable def pvD (pv : PV) : D := .lst (pv.map fun q => .lst (exs q.1 q.2))
noncomputable def pvO (sel : Tag → Bool) (pv : PV) : List Value := (pv.map fun q => (selO sel q.1 q.2).flatten).flatten
noncomputable abbrev SelC (W : Wd) (Y : Addr → Prop) (h : Heap) (v : Value) (tgt : Str) : Prop := SelG W Y h v pvD (pvO (selC tgt)) fun pv => ∀ q ∈ pv, q.2.length = q.1.length
set_option maxHeartbeats 4000000 in
theorem c_child {x tgt : Str} {b : Bool} (hlen : x.length ≤ 1000) (hw : wild x = false) (hc : (cutS x none (some 2) == S "{}") = b) (ht : (if b = true then cutS x (some 2) none else x) = tgt) (V : W.Ok) {A : Around} (r : Rm 6 A) {s : Shared} {Y : Addr → Prop} {vs : List Value} (I : Inv W s.heap) (y : Yk W Y s.heap)
    (il : D.IsL Y s.heap [D.none, .tup [.str (S ""), .str x]] vs) :
    wpAny W.M A (call (.ref 35) vs) (fun v s' => Kp No s s' ∧ Inv W s'.heap ∧ SelC W Y s'.heap v tgt) Fz s := by
  have hl := il.length
  rcases vs with _ | ⟨v0, _ | ⟨v1, _ | _⟩⟩ <;> simp at hl
  refine wpAny_call (fnGo (nm := [S "next", S "token", S "tag", S "select"]) (k := 2) V r.depth I y il ⟨_, I.K _ _ rfl, rfl⟩ (cdAt rfl rfl rfl rfl _ I) rfl rfl rfl rfl (bindsAt (fun S' => by rfl) s I) (by decide) (by simp) (by decide +kernel) (fun s1 μ0 k1 I1 hz F1 => ?_))
  refine wpAny_mono (E := Fz) (Q := fun fl s' => ∃ v, fl = .ret v ∧ Kp μ0.Z s1 s' ∧ Inv W s'.heap ∧ SelC W Y s'.heap v tgt) ?_ (fun fl s' p => by obtain ⟨v, rfl, kp, I', sp⟩ := p; exact ⟨k1.trans kp fun b z => .inr (hz b z), I', sp⟩) fun _ _ z => z.elim
  have r5 : ∀ env, Rm 5 (A.deeper env) := fun env => r.deeper env
  refine wpAny_execs_cons (exGo (r5 _) I1 F1 (Ex.assign (d := .str x) 2 V (Ev.itemT (k := 1) (Ev.name 1 rfl rfl) Ev.int rfl) rfl (.inr ⟨rfl, rfl⟩)) fun s2 μ2 a2 => ?_)
  refine wpAny_execs_cons (ifGo (r5 _) a2.inv a2.fm (b := false) ?w fun s3 k3 I3 F3 => ?_)
  case w =>
    refine Ts.ev (d := D.bool false) ?_ Fb.bool
    apply Ev.call
    case hf => exact Ev.gname (v := .ref 21) V rfl (by kernel_rfl)
    case ha => exact EvL.cons (Ev.name 2 rfl rfl) EvL.nil
    case hk => exact Kept.ref (by kernel_rfl)
    case hc => have := c_wild (W := W) (x := x) V hlen; rw [hw] at this; exact this.le (by first | decide | omega)
    all_goals rfl
  rw [if_neg (by decide)]
  refine wpAny_execs_cons (exGo (r5 _) I3 F3 (ρ' := [.val D.none, .val (.tup [.str (S ""), .str x]), .val (.str tgt), .un]) (Ex.ife (b := b) (Ts.conv (Ts.cmp (Ev.sliceS V (Ev.name 2 rfl rfl) EvP.none (EvP.some Ev.int) hlen) Ev.str F2.eqS) hc) (fun hb => ?_) (fun hb => ?_)) fun s4 μ4 a4 => ?_)
  · rw [if_pos hb] at ht
    rw [← ht]
    exact Ex.one' (Ex.assign 2 V (Ev.sliceS V (Ev.name 2 rfl rfl) (EvP.some Ev.int) EvP.none hlen) rfl (.inr ⟨rfl, rfl⟩))
  · rw [if_neg (by rw [hb]; decide)] at ht
    rw [← ht]
    exact Exs.nil
  refine wpAny_execs_cons (defGo (c := 34) (P := 30) (qual := Str.ofString "prepare_child.<locals>.select") (i := 3) V a4.inv a4.fm (by simp [tabsL]) (by kernel_rfl) rfl rfl (by with_unfolding_all rfl) rfl (.inl rfl) rfl rfl rfl fun fa doc pm code ctv s9 g1 g2 g3 g4 k9 I9 F9 => ?_)
  refine wpAny_execs_nil (wpAny_execs_cons (wpAny_Return_some ((Ev.name (n := 5) 3 rfl rfl).use (r5 _) I9 F9 fun v s10 k10 I10 F10 i10 => ?_)))
  obtain rfl := D.Is.val_iff.mp i10
  have b8 := a2.trans (Af.pre k3 a4)
  have hkp : Kp μ0.Z s1 s10 := (b8.kp.trans k9 b8.grow).trans k10 fun _ z => z.elim
  refine ⟨_, rfl, hkp, I10, ?_⟩
  obtain ⟨u1, H1, i1⟩ := F10.val 2 _ _ rfl rfl
  refine ⟨_, _, [S "context", S "result"], [S "elem", S "e"], [(S "tag", .str tgt)],
    ⟨fa, _, _, rfl, k10.keep _ _ g3 (fun z => z) (cls_notab I9 g3 (by simp)), g4.step k10.code, rfl, rfl, rfl, rfl, fun ws hw => ?_, fun q hq => ?_⟩, rfl, scopeOk.cell ?hsc, scopeOk.loc ?hsc, fun q hq => scopeOk.cap (caps := [S "tag"]) ?hsc q.1 (List.mem_map_of_mem (f := Prod.fst) hq), rfl, rfl, rfl, (show ([S "context", S "result", S "elem", S "e", S "tag"] : List Str).Nodup by decide +kernel), ?_⟩
  case hsc => rfl
  · rcases ws with _ | ⟨w0, _ | ⟨w1, _ | _⟩⟩ <;> simp at hw
    rfl
  · cases List.mem_singleton.mp hq
    exact ⟨_, u1, rfl, H1.cell rfl rfl, i1.drop fun _ z => .inl z⟩
  · intro pv hpv X L cl qual fa' code' p hOX
    refine ⟨ρG [D.none, .lst (pv.map fun q => .lst (exs q.1 q.2))] 2 [(S "tag", .str tgt)], ?_⟩
    rw [← List.append_nil (pvO (selC tgt) pv)]
    have e0 : ∀ {i : Nat} {d : D} {o : List Value}, (pv.map fun q => D.lst (exs q.1 q.2))[i]? = some d → (pv.map fun q => (selO (selC tgt) q.1 q.2).flatten)[i]? = some o → ∃ q ∈ pv, d = .lst (exs q.1 q.2) ∧ o = (selO (selC tgt) q.1 q.2).flatten := fun {i d o} h1 h2 => by
      rw [List.getElem?_map] at h1 h2
      cases hq : pv[i]? with
      | none => rw [hq] at h1; cases h1
      | some q => rw [hq] at h1 h2; cases h1; cases h2; exact ⟨q, List.mem_of_getElem? hq, rfl, rfl⟩
    refine GX.cons (GX1.forIn (oo := pv.map fun q => (selO (selC tgt) q.1 q.2).flatten) (ds := pv.map fun q => .lst (exs q.1 q.2)) false V hOX (fun _ => ρG [D.none, .lst (pv.map fun q => .lst (exs q.1 q.2))] 2 [(S "tag", .str tgt)]) (It.lst V (Ev.name 1 rfl rfl)) (fun d hd => .inl ⟨rfl, _, _, rfl⟩) (by simp) ?_) GX.nil
    intro k d o hd ho X' hX'
    obtain ⟨q, hq, rfl, rfl⟩ := e0 hd ho
    have hlw := hpv q hq
    refine ⟨_, Asn.name V 2 rfl (.inl rfl), ?_⟩
    rw [← List.append_nil (selO (selC tgt) q.1 q.2).flatten]
    refine GX.fgt (GX.cons (GX1.forIn (oo := selO (selC tgt) q.1 q.2) (ds := exs q.1 q.2) false V hX' (fun _ => (ρG [D.none, .lst (pv.map fun q => .lst (exs q.1 q.2))] 2 [(S "tag", .str tgt)]).set 2 (.val (.lst (exs q.1 q.2)))) (It.lst V (Ev.name 2 rfl rfl)) (fun d hd => .inl ⟨rfl, _, _, rfl⟩) (by rw [selO_len hlw, exs_len hlw]) ?_) GX.nil) ?fg0
    case fg0 => exact ⟨.inr rfl, .inr rfl, .inl rfl, .inr rfl, .inr rfl, trivial⟩
    intro k2 d2 o2 hd2 ho2 X2 hX2
    obtain ⟨t, v, ht, rfl, rfl⟩ := exs_get hd2 ho2
    have hh : Handed t.d := by
      cases t with
      | none => exact Handed.none
      | str x => exact Handed.str
      | qn x => exact Handed.qn
    refine ⟨_, Asn.name V 3 rfl (.inl rfl), ?_⟩
    rw [← List.append_nil (if selC tgt t = true then [v] else [])]
    refine GX.fgt (GX.cons (GX1.ife (ρ' := ((ρG [D.none, .lst (pv.map fun q => .lst (exs q.1 q.2))] 2 [(S "tag", .str tgt)]).set 2 (.val (.lst (exs q.1 q.2)))).set 3 (.val (.ex v (thing t)))) (b := selC tgt t) ?test (fun hb => ?_) (fun hb => ?_)) GX.nil) ?fg
    case fg => exact ⟨.inr rfl, .inr rfl, .inr rfl, .inl rfl, .inr rfl, trivial⟩
    case test =>
      cases t with
      | none => exact Ts.cmp (Ev.tag (Ev.unex (Ev.name 3 rfl rfl)) hh) (Ev.name 4 rfl rfl) F2.eqNS
      | str x => exact Ts.cmp (Ev.tag (Ev.unex (Ev.name 3 rfl rfl)) hh) (Ev.name 4 rfl rfl) F2.eqS
      | qn x => exact Ts.cmp (Ev.tag (Ev.unex (Ev.name 3 rfl rfl)) hh) (Ev.name 4 rfl rfl) (F2.eqQ (.inr rfl) V)
    · rw [if_pos hb]
      exact GX.cons (o2 := []) (GX1.yield hX2 (Ev.name 3 rfl rfl)) GX.nil
    · rw [if_neg (by rw [hb]; decide)]
      exact GX.nil
end
end Mine
end
section -- S58
open PySem PySem.W PyProof.Rows PySem.Calls PySem.Spec
set_option Elab.async false
set_option maxRecDepth 100000
set_option linter.unusedVariables false
set_option autoImplicit false
set_option pp.maxSteps 600
namespace Mine
section
variable {W : Wd} {f : Fd} {ρ ρ' : List Vr} {μ : Mu} {n : Nat}

theorem selO_is {Y : Addr → Prop} {h : Heap} {sel : Tag → Bool} : ∀ {ts : List Tag} {vs : List Value}, D.IsL Y h (ts.map thing) vs → D.IsL Y h ((ts.filter sel).map thing) (selO sel ts vs).flatten
  | [], vs, x => by simp only [List.map_nil, D.IsL] at x; subst x; exact D.IsL.nil
  | t :: ts, vs, x => by
    simp only [List.map_cons, D.IsL] at x
    obtain ⟨v, r, rfl, i, il⟩ := x
    have ih := selO_is (sel := sel) il
    rw [selO, List.flatten_cons, List.filter_cons]
    cases sel t with
    | true => exact D.IsL.cons i ih
    | false => exact ih
/-- the things behind a list of things -/
theorem things_of {sel : Tag → Bool} {ts : List Tag} (hx : ∀ x, .str x ∈ ts → x.length ≤ 1000) : ∀ Y h v, D.Is Y h (.lst (ts.map thing)) v → ∃ q : List Tag × List Value, (q.2.length = q.1.length ∧ ∀ x, .str x ∈ q.1 → x.length ≤ 1000) ∧ (D.lst (exs q.1 q.2)).Is Y h v ∧ D.IsL Y h ((ts.filter sel).map thing) (selO sel q.1 q.2).flatten := by
  intro Y h v i
  simp only [D.Is] at i
  obtain ⟨a, vs, rfl, av, hl, il⟩ := i
  have hlen := il.length
  rw [List.length_map] at hlen
  refine ⟨(ts, vs), ⟨hlen, hx⟩, ?_, selO_is il⟩
  simp only [D.Is]
  exact ⟨a, vs, rfl, av, hl, exs_is il⟩
noncomputable def parentsD (pss : List (List Tag)) : D := .lst (pss.map fun ts => .lst (ts.map thing))
theorem parents_of {sel : Tag → Bool} {pss : List (List Tag)} : ∀ Y h v, D.Is Y h (parentsD pss) v → ∃ pv : PV, (∀ q ∈ pv, q.2.length = q.1.length) ∧ (pvD pv).Is Y h v ∧ D.IsL Y h ((pss.flatten.filter sel).map thing) (pvO sel pv) := by
  intro Y h v i
  simp only [parentsD, D.Is] at i
  obtain ⟨a, vs, rfl, av, hl, il⟩ := i
  have key : ∀ (pss : List (List Tag)) (vs : List Value), D.IsL Y h (pss.map fun ts => .lst (ts.map thing)) vs → ∃ pv : PV, (∀ q ∈ pv, q.2.length = q.1.length) ∧ D.IsL Y h (pv.map fun q => .lst (exs q.1 q.2)) vs ∧ D.IsL Y h ((pss.flatten.filter sel).map thing) (pvO sel pv) := by
    intro pss
    induction pss with
    | nil =>
      intro vs x
      exact ⟨[], (fun q hq => by cases hq), x, D.IsL.nil⟩
    | cons ts pss ih =>
      intro vs x
      simp only [List.map_cons, D.IsL] at x
      obtain ⟨v, r, rfl, i, il⟩ := x
      obtain ⟨pv, h1, h2, h3⟩ := ih r il
      simp only [D.Is] at i
      obtain ⟨a, ws, rfl, av, hl, jl⟩ := i
      have hlen := jl.length
      rw [List.length_map] at hlen
      refine ⟨(ts, ws) :: pv, fun q hq => ?_, ?_, ?_⟩
      · rcases List.mem_cons.mp hq with rfl | hq
        · exact hlen
        · exact h1 q hq
      · refine D.IsL.cons ?_ h2
        simp only [D.Is]
        exact ⟨a, ws, rfl, av, hl, exs_is jl⟩
      · rw [List.flatten_cons, List.filter_append, List.map_append]
        exact (selO_is jl).append h3
  obtain ⟨pv, h1, h2, h3⟩ := key pss vs il
  refine ⟨pv, h1, ?_, h3⟩
  simp only [pvD, D.Is]
  exact ⟨a, vs, rfl, av, hl, h2⟩

/-- the call of a chooser: a generator stands -/
theorem evGen {fe e1 e2 : Expr} {pos : Pos} {d2 : D} {α : Type} {mk : α → D} {out : α → List Value} {ok : α → Prop} {res : List Tag} {A : Around} {s : Shared} (V : W.Ok)
    (hf : ∀ A, Rm n A → ∀ s μ, Inv W s.heap → Fm W f ρ μ s.heap → wpAny W.M A (eval fe f.env) (fun v s' => Kp No s s' ∧ Inv W s'.heap ∧ SelG W (Yo f μ) s'.heap v mk out ok) Fz s)
    (h1 : Ev W n f ρ e1 D.none) (h2 : Ev W n f ρ e2 d2) (hd2 : ∀ Y h v, D.Is Y h d2 v → ∃ a : α, ok a ∧ (mk a).Is Y h v ∧ D.IsL Y h (res.map thing) (out a)) (r : Rm n A) (I : Inv W s.heap) (F : Fm W f ρ μ s.heap)
    (hs : (backTo pos (starEach [e1, e2] f.env)).any (·.1) = false := by rfl) (he1 : starEach [e1, e2] f.env = (false, eval e1 f.env) :: starEach [e2] f.env := by rfl) (he2 : starEach [e2] f.env = (false, eval e2 f.env) :: starEach [] f.env := by rfl)
    (hv : eval (.Call fe [e1, e2] [] pos) f.env = (do callWith pos (← eval fe f.env) [] (backTo pos (starEach [e1, e2] f.env)) (backToKw pos (keywordEach [] f.env))) := by rfl) :
    wpAny W.M A (eval (.Call fe [e1, e2] [] pos) f.env) (fun gv s' => ∃ a g L B0 vs, gv = .ref a ∧ Ready W 4 B0 L a g vs s' ∧ s.gens.size ≤ g ∧ s.heap.objs.size ≤ B0 ∧ Kp No s s' ∧ Inv W s'.heap ∧ D.IsL (fun b => Yo f μ b ∨ B0 ≤ b) s'.heap (res.map thing) vs) Fz s := by
  rw [hv]
  refine wpAny_bind (wpAny_mono (hf A r s μ I F) (fun v s1 p => ?_) fun _ _ z => z)
  obtain ⟨k1, I1, sg⟩ := p
  have F1 := F.step I k1
  obtain ⟨sc, body, ps, un, caps, hS, g1, g2, g3, g4, g5, g6, g7, g8, g9⟩ := sg
  obtain ⟨fa, od, fd, rfl, ho, hrest⟩ := id hS
  refine callWith_of (P := FnAt fa) (by rw [hs]; rfl) keeps_F (evalArgs_of hs ?_)
  refine wpAny_mono (EvL.cons h1 (EvL.cons h2 EvL.nil he2) he1 A r pos s1 μ I1 F1) (fun vs s2 p => ?_) fun _ _ z => z
  obtain ⟨k2, I2, il⟩ := p
  refine ⟨⟨_, _, _, _, k2.keep _ _ ho (fun z => z) (cls_notab I1 ho (by simp))⟩, ?_⟩
  have F2 := F1.step I1 k2
  simp only [D.IsL] at il
  obtain ⟨v1, r1, rfl, i1, v2, r2, rfl, i2, rfl⟩ := il
  obtain ⟨a0, hok, imk, iout⟩ := hd2 _ _ _ i2
  have S2 := hS.step I1 k2
  refine wpAny_mono (genCall (m := 4) (outs := out a0) (ds := [D.none, mk a0]) V r.depth I2 F2.yk S2 (.cons i1 (.cons imk .nil)) (by rw [g1]; rfl) g2 g3 g4 g5 g6 g7 g8 (fun X L cl qual fa code p hX => g9 a0 hok X L cl qual fa code p hX)) (fun gv s3 p => ?_) fun _ _ z => z
  obtain ⟨a, g, L, rfl, ha1, ha2, hL1, hL2, hg, k3, I3, hgen, hst, hat⟩ := p
  have k12 := k1.trans0 k2
  refine ⟨a, g, L, s2.heap.objs.size, out a0, rfl, ⟨hgen, hst, ⟨hL1, ha1, hL2, ha2⟩, fun A' r' Oc hO s'' x I'' hg' hOs => hat A' r' Oc hO s'' x I'' hg' hOs⟩, ?_, k12.size, k12.trans0 k3, I3, ?_⟩
  · refine Nat.le_trans ?_ hg
    have : ∀ i, i < s.gens.size → i < s2.gens.size := fun i hi => by
      have := k12.gens i s.gens[i] (by simp [hi])
      exact (Array.getElem?_eq_some_iff.mp this).1
    rcases Nat.eq_zero_or_pos s.gens.size with h | h
    · rw [h]; exact Nat.zero_le _
    · have := this (s.gens.size - 1) (by omega)
      omega
  · exact iout.move ⟨fun b y => y, fun b o e _ t => k3.keep b o e (fun z => z) t⟩
theorem gens_le {s s' : Shared} (k : Kp No s s') : s.gens.size ≤ s'.gens.size := by
  rcases Nat.eq_zero_or_pos s.gens.size with h | h
  · rw [h]; exact Nat.zero_le _
  · have := (Array.getElem?_eq_some_iff.mp (k.gens (s.gens.size - 1) s.gens[s.gens.size - 1] (by simp <;> omega))).1
    omega
/-- list(chooser(None, things)) -/
theorem Ev.listGen {fe e1 e2 : Expr} {pl pos pos2 : Pos} {d2 : D} {α : Type} {mk : α → D} {out : α → List Value} {ok : α → Prop} {res : List Tag} {m : Nat} (V : W.Ok) (hn : n = m + 10)
    (hf : ∀ A, Rm n A → ∀ s μ, Inv W s.heap → Fm W f ρ μ s.heap → wpAny W.M A (eval fe f.env) (fun v s' => Kp No s s' ∧ Inv W s'.heap ∧ SelG W (Yo f μ) s'.heap v mk out ok) Fz s)
    (h1 : Ev W n f ρ e1 D.none) (h2 : Ev W n f ρ e2 d2) (hd2 : ∀ Y h v, D.Is Y h d2 v → ∃ a : α, ok a ∧ (mk a).Is Y h v ∧ D.IsL Y h (res.map thing) (out a)) (hres : res.length ≤ 1000)
    (hlist : Ev W n f ρ (.Name "list" pl) (.val (.type "list")))
    (hs : (backTo pos (starEach [e1, e2] f.env)).any (·.1) = false := by rfl) (he1 : starEach [e1, e2] f.env = (false, eval e1 f.env) :: starEach [e2] f.env := by rfl) (he2 : starEach [e2] f.env = (false, eval e2 f.env) :: starEach [] f.env := by rfl)
    (hv : eval (.Call fe [e1, e2] [] pos) f.env = (do callWith pos (← eval fe f.env) [] (backTo pos (starEach [e1, e2] f.env)) (backToKw pos (keywordEach [] f.env))) := by rfl)
    (hs2 : (backTo pos2 (starEach [.Call fe [e1, e2] [] pos] f.env)).any (·.1) = false := by rfl) (he3 : starEach [.Call fe [e1, e2] [] pos] f.env = (false, eval (.Call fe [e1, e2] [] pos) f.env) :: starEach [] f.env := by rfl)
    (hv2 : eval (.Call (.Name "list" pl) [.Call fe [e1, e2] [] pos] [] pos2) f.env = (do callWith pos2 (← eval (.Name "list" pl) f.env) [] (backTo pos2 (starEach [.Call fe [e1, e2] [] pos] f.env)) (backToKw pos2 (keywordEach [] f.env))) := by rfl) :
    Ev W n f ρ (.Call (.Name "list" pl) [.Call fe [e1, e2] [] pos] [] pos2) (.lst (res.map thing)) := by
  intro A r s μ I F
  rw [hv2]
  refine wpAny_bind (hlist.use r I F fun v s1 k1 I1 F1 i1 => ?_)
  obtain rfl := D.Is.val_iff.mp i1
  refine callWith_of (P := Inv W) (by rw [hs2]; rfl) Kept.type (evalArgs_of hs2 ?_)
  refine wpAny_items_cons (he := he3) (wpAny_mono (evGen (μ := μ) V hf h1 h2 hd2 r I1 F1 hs he1 he2 hv) (fun gv s2 p => ?_) fun _ _ z => z)
  obtain ⟨a, g, L, B0, vs, rfl, R, hg, hB0, k2, I2, il⟩ := p
  refine wpAny_items_nil ⟨I2, ?_⟩
  subst hn
  have hlen := il.length
  rw [List.length_map] at hlen
  have hgs : s.gens.size ≤ g := Nat.le_trans (gens_le k1) hg
  refine wpAny_mono (Mine.listGen (m := 4) (g0 := s.gens.size) V (r.le (by first | decide | omega)) I2 R hgs (Nat.le_trans I1.size hB0) (by rw [hlen]; exact hres)) (fun v s3 p => ?_) fun _ _ z => z
  obtain ⟨S3, rfl, hS3, kx, I3, hl⟩ := p
  have k12 := k1.trans0 k2
  have kx3 : Kx No s.gens.size s s3 := (k12.kx _).trans kx fun b z => .inr (Nat.le_trans k1.size (Nat.le_trans hB0 z))
  refine ⟨kx3.kp, I3, ?_⟩
  simp only [D.Is]
  have hB2 : B0 ≤ s2.heap.objs.size := Nat.le_trans R.lo.1 (Nat.le_of_lt R.lo.2.2.1)
  refine ⟨S3, vs, rfl, ⟨fun q => ?_, ?_⟩, hl, ?_⟩
  · exact absurd (F1.step I1 k2 |>.lt _ q).1 (Nat.not_lt.mpr hS3)
  · obtain ⟨o, ho, hc, _⟩ := hl
    exact cls_notab I3 ho (by rw [hc]; simp)
  · exact il.move ⟨fun b q => .inl (.inl q), fun b o e q t => kx.keep b o e (fun z => q (.inr z)) t⟩
set_option maxHeartbeats 4000000 in
/-- _law_told on a generator -/
theorem c_toldG {A : Around} {s : Shared} {Y : Addr → Prop} {a : Addr} {B0 g g0 : Nat} {L : Addr} {vs : List Value} {ts : List Tag} (V : W.Ok) (r : Rm 10 A) (I : Inv W s.heap) (y : Yk W Y s.heap) (R : Ready W 4 B0 L a g vs s) (hg0 : g0 ≤ g) (hB : W.B ≤ B0)
    (hds : D.IsL (fun b => Y b ∨ B0 ≤ b) s.heap (ts.map thing) vs) (hn : ts.length ≤ 1000) :
    wpAny W.M A (call (.ref 190) [.ref a]) (fun v s' => Kx (fun b => B0 ≤ b) g0 s s' ∧ Inv W s'.heap ∧ (D.lst (ts.map Tag.told)).Is Y s'.heap v) Fz s := by
  refine wpAny_call (fnGo (nm := [S "things"]) (k := 0) (ds := [.val (.ref a)]) (vs := [.ref a]) V r.depth I y (.cons D.Is.val .nil) ⟨_, I.K _ _ rfl, rfl⟩ (cdAt rfl rfl rfl rfl _ I) rfl rfl rfl rfl (bindsAt (fun S' => by rfl) s I) (by decide) (by simp) (by decide +kernel) (fun s1 μ0 k1 I1 hz F1 => ?_))
  have hB2 : B0 ≤ s.heap.objs.size := Nat.le_trans R.lo.1 (Nat.le_of_lt R.lo.2.2.1)
  have hh : D.IsL (fun b => (Y b ∨ μ0.Z b) ∨ (B0 ≤ b ∧ b < s1.heap.objs.size)) s1.heap (ts.map thing) vs := hds.move ⟨fun b q => by
    rcases q with (q | q) | q
    · exact .inl (.inl q)
    · exact .inr (hz b q)
    · exact .inl (.inr q.1), fun b o e _ t => k1.keep b o e (fun z => z) t⟩
  refine wpAny_execs_cons (wpAny_Return_some (wpAny_mono (compGen (k := 9) (g0 := g0) V (r.deeper _) (by decide) toldD I1 F1 (Ev.name 0 rfl rfl) (R.step I k1) hg0 hB hh rfl (fun d hd X C Lo => ?_) rfl (by rw [List.length_map]; exact hn)) (fun v s2 p => ?_) fun _ _ z => z.elim))
  · obtain ⟨t, ht, rfl⟩ := List.mem_map.mp hd
    rw [toldD_thing]
    cases t with
    | none =>
      refine Ev.ife (b := false) (Ts.ev (d := D.bool false) ?_ Fb.bool) (fun h => by cases h) (fun _ => Ev.tup V (EvL.cons (Ev.tag (Ev.name 0 rfl rfl) Handed.none) (EvL.cons Ev.int EvL.nil)) (by show 2 ≤ sizeLine; decide))
      · apply Ev.call
        case hf => exact Ev.bname (v := .builtin "isinstance") V rfl (by kernel_rfl) (by decide +kernel)
        case ha => exact EvL.cons (Ev.tag (Ev.name 0 rfl rfl) Handed.none) (EvL.cons (Ev.gname (v := .ref 145) V rfl (by kernel_rfl)) EvL.nil)
        case hk => exact Kept.builtin
        case hc => exact Cl.isQnN
        all_goals rfl
    | str x =>
      refine Ev.ife (b := false) (Ts.ev (d := D.bool false) ?_ Fb.bool) (fun h => by cases h) (fun _ => Ev.tup V (EvL.cons (Ev.tag (Ev.name 0 rfl rfl) Handed.str) (EvL.cons Ev.int EvL.nil)) (by show 2 ≤ sizeLine; decide))
      · apply Ev.call
        case hf => exact Ev.bname (v := .builtin "isinstance") V rfl (by kernel_rfl) (by decide +kernel)
        case ha => exact EvL.cons (Ev.tag (Ev.name 0 rfl rfl) Handed.str) (EvL.cons (Ev.gname (v := .ref 145) V rfl (by kernel_rfl)) EvL.nil)
        case hk => exact Kept.builtin
        case hc => exact Cl.isQnS
        all_goals rfl
    | qn x =>
      refine Ev.ife (b := true) (Ts.ev (d := D.bool true) ?_ Fb.bool) (fun _ => Ev.tup V (EvL.cons (Ev.text (Ev.tag (Ev.name 0 rfl rfl) Handed.qn)) (EvL.cons Ev.int EvL.nil)) (by show 2 ≤ sizeLine; decide)) (fun h => by cases h)
      · apply Ev.call
        case hf => exact Ev.bname (v := .builtin "isinstance") V rfl (by kernel_rfl) (by decide +kernel)
        case ha => exact EvL.cons (Ev.tag (Ev.name 0 rfl rfl) Handed.qn) (EvL.cons (Ev.gname (v := .ref 145) V rfl (by kernel_rfl)) EvL.nil)
        case hk => exact Kept.builtin
        case hc => exact Cl.isQn
        all_goals rfl
  · obtain ⟨kx, I2, i2⟩ := p
    refine ⟨((k1.weaken fun b z => z.elim : Kp (fun b => B0 ≤ b) s s1).kx g0).trans kx fun b z => .inl z, I2, ?_⟩
    have e : (ts.map thing).map toldD = ts.map Tag.told := by
      rw [List.map_map]; exact List.map_congr_left fun t _ => toldD_thing t
    rw [e] at i2
    exact i2.drop fun _ z => .inl z
end
end Mine
end
section -- S59
open PySem PySem.W PyProof.Rows PySem.Calls PySem.Spec
set_option Elab.async false
set_option maxRecDepth 100000
set_option linter.unusedVariables false
set_option autoImplicit false
set_option pp.maxSteps 600
namespace Mine
section
variable {W : Wd} {f : Fd} {ρ ρ' : List Vr} {μ : Mu} {n : Nat}

theorem collectRange {A : Around} {s : Shared} {r : Addr} {k : Nat} {t u v : Tok} {Q : List Value → Shared → Prop} (hh : A.handled = none) (hr : IsRange s.heap r 0 k 1 t u v) (hk : k ≤ 1000)
    (h : ∀ (h' : Heap) (tk : Nat) (acc : Array Value), (∀ b o, s.heap.get? b = some o → h'.get? b = some o) → s.heap.objs.size ≤ h'.objs.size → ItemsOf (fun i v => ∃ t, v = .int (0 + i * 1) t) acc k → Q acc.toList { s with heap := h', toks := tk }) :
    wpAny W.M A (collect (.ref r)) Q Fz s := by
  have hz : Builtin.Range.rangeSize 0 (k : Int) 1 = k := by rw [rangeSize_one]; split <;> omega
  unfold collect
  refine wpAny_bind (wpAny_runValue (codeAny_builtin PyProof.Rows.entry_proto_collect' ?_))
  rw [Around.under_plainId PySem.F.plain_proto_collect _]
  show wpAny _ A.in1 (newList [] >>= fun l => again (.builtin "list.__iadd__" ⟨[l, .ref r], []⟩)) _ _ s
  refine wpAny_bind (wpAny_newObj_type ?_)
  refine wpAny_pure ⟨plainId_quiet PySem.F.plain_list_iadd _, codeAny_builtin PyProof.Rows.entry_list_iadd' ?_⟩
  rw [Around.under_plainId PySem.F.plain_list_iadd _]
  have hS₁ : (s.heap.push { cls := .type "list", data := .seq ([] : List Value).toArray }).get? s.heap.objs.size = some { cls := .type "list", data := .seq #[] } := Heap.get?_push_size _ rfl
  show wpAny _ A.in1 (Builtin.List.listExtendWith (.ref s.heap.objs.size) (.ref r) (.ref s.heap.objs.size)) _ _ _
  have key := wpAny_extend_range (prog := PySem.Challenge.pw_yj0022_01) (w := W.w) (A := A) (s := { s with heap := s.heap.push { cls := .type "list", data := .seq ([] : List Value).toArray } })
    (R := fun (q : Result) (s' : Shared) => ∃ (h' : Heap) (tk : Nat) (acc' : Array Value) (c' : Nat), q = .ok (.ret (.ref s.heap.objs.size)) ∧ s' = { s with heap := h', toks := tk } ∧
      (∀ b o, s.heap.get? b = some o → h'.get? b = some o) ∧ h'.get? s.heap.objs.size = some { cls := .type "list", dict := none, data := .seq acc' c', slots := #[] } ∧ ItemsOf (fun i v => ∃ t, v = .int (0 + i * 1) t) acc' k)
    hh (Heap.get?_push_of_some _ hr) (small_one (by omega) (by omega) (by omega) (by omega)) hz (by omega) s.heap.objs.size (.ref s.heap.objs.size) 0 hS₁
    (fun h' tk acc' c' hk hS' hacc => ⟨h', tk, acc', c', rfl, rfl, fun b o e => hk b o (Nat.ne_of_lt (Heap.lt_size e)) (Heap.get?_push_of_some _ e), hS', hacc⟩)
  refine wpAny_mono key (fun fin s' x => ?_) fun e s' x => ?_
  · cases fin with
    | done f =>
      obtain ⟨h', tk, acc', c', e, rfl, hk, hS', hacc⟩ := x
      cases e
      show wpAny _ A (load s.heap.objs.size >>= _) _ _ _
      refine wpAny_bind (wpAny_load hS' ?_)
      exact wpAny_pure (h h' tk acc' hk (Nat.le_of_lt (Heap.lt_size hS')) hacc)
    | again c₁ =>
      refine ⟨x.1, codeAny_mono x.2 fun q s₂ y => ?_⟩
      obtain ⟨h', tk, acc', c', rfl, rfl, hk, hS', hacc⟩ := y
      show wpAny _ A (load s.heap.objs.size >>= _) _ _ _
      refine wpAny_bind (wpAny_load hS' ?_)
      exact wpAny_pure (h h' tk acc' hk (Nat.le_of_lt (Heap.lt_size hS')) hacc)
  · obtain ⟨_, _, _, _, e', _⟩ := x
    cases e'

/-- what a tree of comparisons answers -/
noncomputable def kasRun {α : Type} (lt : Nat → Nat → Bool) : PySem.W.KasT α → α
  | .ret a => a
  | .ask i j k => kasRun lt (k (lt i j))
theorem kasWp_run {α : Type} {cmp : Nat → Nat → (Bool → Shared → Prop) → Shared → Prop} {lt : Nat → Nat → Bool} {s : Shared} (hc : ∀ i j C, C (lt i j) s → cmp i j C s) : ∀ (t : PySem.W.KasT α) {Q : α → Shared → Prop}, Q (kasRun lt t) s → t.kasWp cmp Q s
  | .ret a, Q, h => h
  | .ask i j k, Q, h => hc i j _ (kasWp_run hc (k (lt i j)) h)
/-- the order of the ranges: by their beginnings, then by their names -/
noncomputable def ltK (st : List Int) (i j : Nat) : Bool := if st.getD i 0 = st.getD j 0 then decide (i < j) else decide (st.getD i 0 < st.getD j 0)
noncomputable def turnsOf (st : List Int) : List Nat := (kasRun (ltK st) (PySem.W.kas_sort 5)).toList
theorem keyLoop {A : Around} {f : Value} {kS : Value} {body : Value → PUnit → Sem (ForInStep PUnit)}
    (hb : ∀ x s (R : ForInStep PUnit → Shared → Prop), wpAny W.M A (call f [x]) (fun k s' => wpAny W.M A (Builtin.List.listUpdate kS (·.push k)) (fun _ s'' => R (.yield ⟨⟩) s'') Fz s') Fz s → wpAny W.M A (body x ⟨⟩) R Fz s) (J : Nat → Shared → Prop) :
    ∀ (xs : List Value) (i : Nat) (s : Shared), (∀ j x, xs[j]? = some x → ∀ s, J (i + j) s → wpAny W.M A (call f [x]) (fun k s' => wpAny W.M A (Builtin.List.listUpdate kS (·.push k)) (fun _ s'' => J (i + j + 1) s'') Fz s') Fz s) → J i s →
      wpAny W.M A (forIn xs PUnit.unit body) (fun _ s' => J (i + xs.length) s') Fz s
  | [], i, s, _, h0 => by rw [List.forIn_nil]; exact wpAny_pure h0
  | x :: xs, i, s, h, h0 => by
    rw [List.forIn_cons]
    refine wpAny_bind (hb x s _ (wpAny_mono (h 0 x rfl s h0) (fun k s' hk => wpAny_mono hk (fun _ s'' hj => ?_) fun _ _ z => z) fun _ _ z => z))
    have e : i + (x :: xs).length = (i + 1) + xs.length := by rw [List.length_cons]; omega
    rw [e]
    exact keyLoop hb J xs (i + 1) s'' (fun j y hy s hs => by have := h (j + 1) y (by simpa using hy) s (by rw [show i + (j + 1) = i + 1 + j by omega]; exact hs); rw [show i + (j + 1) + 1 = i + 1 + j + 1 by omega] at this; exact this) hj
end
end Mine
end
section -- S60
open PySem PySem.W PyProof.Rows PySem.Calls PySem.Spec
set_option Elab.async false
set_option maxRecDepth 100000
set_option linter.unusedVariables false
set_option autoImplicit false
set_option pp.maxSteps 600
namespace Mine
section
variable {W : Wd} {f : Fd} {ρ ρ' : List Vr} {μ : Mu} {n : Nat}

noncomputable def inR {α : Type} (n : Nat) : PySem.W.KasT α → Bool
  | .ret _ => true
  | .ask i j k => decide (i < n) && decide (j < n) && inR n (k true) && inR n (k false)
theorem kasWp_runR {α : Type} {cmp : Nat → Nat → (Bool → Shared → Prop) → Shared → Prop} {lt : Nat → Nat → Bool} {s : Shared} {n : Nat} (hc : ∀ i j C, i < n → j < n → C (lt i j) s → cmp i j C s) : ∀ (t : PySem.W.KasT α) {Q : α → Shared → Prop}, inR n t = true → Q (kasRun lt t) s → t.kasWp cmp Q s
  | .ret a, Q, _, h => h
  | .ask i j k, Q, hr, h => by
    simp only [inR, Bool.and_eq_true, decide_eq_true_eq] at hr
    refine hc i j _ hr.1.1.1 hr.1.1.2 (kasWp_runR hc (k (lt i j)) ?_ h)
    cases lt i j with
    | true => exact hr.1.2
    | false => exact hr.2
theorem sort5_inR : inR 5 (PySem.W.kas_sort 5) = true := by decide +kernel
noncomputable def keyD (st : List Int) (k : Nat) : D := .tup [.int (st.getD k 0), nat k]
theorem keyD_is {Y : Addr → Prop} {h : Heap} {st : List Int} {k : Nat} {v : Value} (x : (keyD st k).Is Y h v) : ∃ a t u, v = .ref a ∧ Av Y a ∧ h.IsTuple a (List.toArray [.int (st.getD k 0) t, .int k u]) := by
  simp only [keyD, D.Is, D.IsL] at x
  obtain ⟨a, vs, e, av, ht, v1, r1, e1, ⟨t, rfl⟩, v2, r2, e2, ⟨u, rfl⟩, e3⟩ := x
  subst e3; subst e2; subst e1
  exact ⟨a, t, u, e, av, ht⟩
theorem keys_tups {Y : Addr → Prop} {h : Heap} {st : List Int} : ∀ (l : List Nat) (ks : List Value), D.IsL Y h (l.map (keyD st)) ks → ∃ fs, PySem.W.KatTups h ks fs ∧ fs.length = ks.length ∧ ∀ v ∈ fs, ∃ i t, v = .int i t
  | [], ks, x => by simp only [List.map_nil, D.IsL] at x; subst x; exact ⟨[], PySem.W.KatTups.nil, rfl, fun v hv => by cases hv⟩
  | k :: l, ks, x => by
    simp only [List.map_cons, D.IsL] at x
    obtain ⟨v, r, rfl, i, il⟩ := x
    obtain ⟨fs, h1, h2, h3⟩ := keys_tups l r il
    obtain ⟨a, t, u, rfl, av, o, ho, hc, c, hd⟩ := keyD_is i
    refine ⟨.int (st.getD k 0) t :: fs, PySem.W.KatTups.cons ho hc hd rfl h1, by simp [h2], fun v hv => ?_⟩
    rcases List.mem_cons.mp hv with rfl | hv
    · exact ⟨_, _, rfl⟩
    · exact h3 v hv
set_option maxHeartbeats 4000000 in
theorem sortedGo {q : Addr} {A : Around} {s : Shared} {Y : Addr → Prop} {r : Addr} {fv : Value} {t u v : Tok} {st : List Int} (V : W.Ok) (hh : A.handled = none) (I : Inv W s.heap) (y : Yk W Y s.heap) (hr : IsRange s.heap r 0 5 1 t u v) (htn : ∀ k ∈ turnsOf st, k < 5) (hfv : fv = .ref q)
    (hcall : ∀ k, k < 5 → ∀ s' Y' t, Kp (fun b => s.heap.objs.size ≤ b) s s' → Inv W s'.heap → Yk W Y' s'.heap → (∀ b, Y' b → Y b ∨ s.heap.objs.size ≤ b) → wpAny W.M A.in1.in1 (call fv [.int (k : Nat) t]) (fun kv s'' => Kp No s' s'' ∧ Inv W s''.heap ∧ (keyD st k).Is Y' s''.heap kv) Fz s') :
    wpAny W.M A (call (.builtin "sorted") [.ref r] [(Str.ofString "key", fv)]) (Pv W Y s (.lst ((turnsOf st).map nat))) Fz s := by
  subst hfv
  refine PyProof.Rows.call_function_entry_kw PyProof.Rows.kind_sorted PyProof.Rows.plain_sorted PyProof.Rows.entry_sorted (PyProof.Rows.ksk_s1 _ _) ?_
  unfold Builtin.«sorted»
  refine wpAny_bind (m := checkCount "sorted" 1 1 _) (wpAny_pure ?_)
  refine wpAny_bind (collectRange (k := 5) (A := A.in1) hh hr (by decide) fun h1 tk1 acc k1 sz1 hacc => ?_)
  have hvl : acc.toList.length = 5 := by rw [Array.length_toList]; exact hacc.1
  have hvg : ∀ j, j < 5 → ∃ t, acc.toList[j]? = some (.int (j : Nat) t) := fun j hj => by
    have hlt : j < acc.size := by rw [hacc.1]; exact hj
    obtain ⟨t, e⟩ := hacc.2 j acc[j] (Array.getElem?_eq_getElem hlt)
    exact ⟨t, by rw [Array.getElem?_toList, Array.getElem?_eq_getElem hlt, e]; congr 2; omega⟩
  generalize acc.toList = vs at hvl hvg ⊢
  refine wpAny_bind (wpAny_newList ?_ (by rw [sizeLine_eq]; omega))
  dsimp only
  generalize hDD : h1.objs.size = Dl
  have hsD : s.heap.objs.size ≤ Dl := by rw [← hDD]; exact sz1
  have hBD : W.B ≤ Dl := Nat.le_trans I.size hsD
  let s2 : Shared := { s with heap := h1.push (seqObj "list" vs.toArray 0), toks := tk1 }
  have hoD : s2.heap.get? Dl = some (seqObj "list" vs.toArray 0) := hDD ▸ Heap.get?_push_size _ rfl
  have kq2 : Kq No s.heap s2.heap := (Kq.all k1 sz1).trans (.push _ _) fun _ z => .inl z
  have kp2 : Kp No s s2 := kq2.kp fun _ _ z => z
  have I2 : Inv W s2.heap := I.step V kq2 fun _ z => z.elim
  refine wpAny_bind (wpAny_holding (PyProof.Rows.wpAny_call_entry_kw PyProof.Rows.slot_list_sort ⟨_, hoD, rfl⟩ PyProof.Rows.entry_list_sort ?_ (PyProof.Rows.ksk_l1 _ _)))
  show wpAny W.M A.in1.in1 (Builtin.«list.sort» ⟨[.ref Dl], [(Str.ofString "key", .ref q)]⟩) _ _ s2
  rw [PyProof.Rows.ksk_t1]
  unfold PyProof.Rows.ksk_tree
  refine wpAny_bind (PyProof.Rows.listItems_at hoD rfl ?_)
  refine wpAny_bind (PyProof.Rows.listUpdate_at hoD rfl ?_ (by rw [List.size_toArray, sizeLine_eq]; omega) (Nat.zero_le _))
  obtain ⟨e1, ho1⟩ : ∃ e1, (s2.heap.update Dl (Obj.mapSeq fun _ => (#[] : Array Value))).get? Dl = some (seqObj "list" #[] e1) := ⟨_, PyProof.Rows.get?_update_seq hoD fun _ => #[]⟩
  have sb1 := Heap.SameBut.update s2.heap Dl (Obj.mapSeq fun _ => (#[] : Array Value))
  refine wpAny_bind (PyProof.Rows.seqEpoch_at ho1 rfl ?_)
  refine wpAny_bind (wpAny_newTuple ?_ (by show vs.length ≤ _; rw [sizeLine_eq]; omega))
  refine wpAny_bind (wpAny_newList ?_ (Nat.zero_le _))
  refine wpAny_holding ?_
  dsimp only
  generalize hAe : (s2.heap.update Dl (Obj.mapSeq fun _ => (#[] : Array Value))) = hA at ho1 sb1 ⊢
  have hTsz : (hA.push (seqObj "tuple" vs.toArray 0)).objs.size = hA.objs.size + 1 := Heap.size_push _ _
  generalize hkS : (hA.push (seqObj "tuple" vs.toArray 0)).objs.size = kS at hTsz
  have hAsz : hA.objs.size = s2.heap.objs.size := sb1.1
  have hDlt : Dl < s2.heap.objs.size := Heap.lt_size hoD
  have hDk : Dl ≠ kS := by rw [hTsz, hAsz]; exact Nat.ne_of_lt (Nat.lt_succ_of_lt hDlt)
  have hsk : s.heap.objs.size ≤ kS := by rw [hTsz, hAsz]; exact Nat.le_succ_of_le kp2.size
  let s3 : Shared := { s2 with heap := (hA.push (seqObj "tuple" vs.toArray 0)).push (seqObj "list" #[] 0) }
  have hk3 : s3.heap.get? kS = some (seqObj "list" #[] 0) := hkS ▸ Heap.get?_push_size _ rfl
  have hD3 : s3.heap.get? Dl = some (seqObj "list" #[] e1) := Heap.get?_push_of_some _ (Heap.get?_push_of_some _ ho1)
  have kq3 : Kq (fun b => b = Dl) s2.heap s3.heap := ((Kq.one sb1 hoD (noCode rfl)).trans (.push _ _) fun _ z => z.elim).trans (.push _ _) fun _ z => z.elim
  have hBd : ∀ b, b = Dl → W.B ≤ b := fun b e => e ▸ hBD
  have I3 : Inv W s3.heap := I2.step V kq3 hBd
  have kp3 : Kp (fun b => s.heap.objs.size ≤ b) s s3 := (kp2.weaken fun _ z => z.elim : Kp (fun b => s.heap.objs.size ≤ b) s s2).trans (kq3.kp (s := s2) (tk := s2.toks) (V.high hBd)) fun b e => .inl (e ▸ hsD)
  let Y' : Addr → Prop := fun b => Y b ∨ b = Dl ∨ b = kS
  have hY'lt : ∀ s' : Shared, Kp (fun b => s.heap.objs.size ≤ b) s s' → s'.heap.get? Dl = some (seqObj "list" #[] e1) → kS < s'.heap.objs.size → Yk W Y' s'.heap := fun s' k hd hk b yb => by
    rcases yb with yb | rfl | rfl
    · exact ⟨Nat.lt_of_lt_of_le (y b yb).1 k.size, (y b yb).2⟩
    · exact ⟨Heap.lt_size hd, hBD⟩
    · exact ⟨hk, Nat.le_trans I.size hsk⟩
  let J : Nat → Shared → Prop := fun i s' => ∃ ks e, Kp (fun b => s.heap.objs.size ≤ b) s s' ∧ Inv W s'.heap ∧ s'.heap.get? Dl = some (seqObj "list" #[] e1) ∧ s'.heap.get? kS = some (seqObj "list" (List.toArray ks) e) ∧ i ≤ 5 ∧ D.IsL Y' s'.heap ((List.range i).map (keyD st)) ks
  have hBk : ∀ b, b = kS → W.B ≤ b := fun b e => e ▸ Nat.le_trans I.size hsk
  unfold PyProof.Rows.ksk_rest
  refine wpAny_bind (wpAny_rule ?_)
  rw [List.forIn_toArray]
  refine wpAny_bind (wpAny_mono (keyLoop (f := .ref q) (kS := .ref kS) (fun x s' R hx => ?_) J vs 0 s3 (fun j x hj s' hs' => ?_) ⟨[], 0, kp3, I3, hD3, hk3, by decide, by simpa using D.IsL.nil⟩) (fun _ s4 hJ => ?_) fun _ _ z => z.elim)
  · refine wpAny_bind (wpAny_attempt (wpAny_mono hx (fun k s'' hk => ?_) fun _ _ hF => hF.elim))
    dsimp only
    exact wpAny_bind (wpAny_mono hk (fun _ _ hr => wpAny_pure hr) fun _ _ z => z)
  · obtain ⟨ks, e, k', I', hD', hk', hi, il⟩ := hs'
    have hj5 : j < 5 := by have := (List.getElem?_eq_some_iff.mp hj).1; omega
    obtain ⟨t', ht'⟩ := hvg j hj5
    rw [hj] at ht'; cases ht'
    rw [Nat.zero_add] at il hi ⊢
    have ksl := il.length
    rw [List.length_map, List.length_range] at ksl
    refine wpAny_mono (hcall j hj5 s' Y' t' k' I' (hY'lt s' k' hD' (Heap.lt_size hk')) (fun b yb => yb.imp_right fun e => e.elim (fun e => e ▸ hsD) fun e => e ▸ hsk)) (fun kv s'' q => ?_) fun _ _ z => z
    obtain ⟨kc, Ic, ic⟩ := q
    have hkc := kc.at I' hk' rfl fun z => z
    have hDc := kc.at I' hD' rfl fun z => z
    obtain ⟨c2, hc2⟩ : ∃ c2, (s''.heap.update kS (Obj.mapSeq (·.push kv))).get? kS = some (seqObj "list" (List.toArray (ks ++ [kv])) c2) := ⟨_, by rw [show List.toArray (ks ++ [kv]) = (List.toArray ks).push kv by simp]; exact PyProof.Rows.get?_update_seq hkc (·.push kv)⟩
    have sbk := Heap.SameBut.update s''.heap kS (Obj.mapSeq (·.push kv))
    refine PyProof.Rows.listUpdate_at hkc rfl ?_ (by rw [List.size_toArray, sizeLine_eq]; omega) (by rw [Array.size_push, List.size_toArray, sizeLine_eq]; omega)
    have kqk : Kq (fun b => b = kS) s''.heap (s''.heap.update kS (Obj.mapSeq (·.push kv))) := Kq.one sbk hkc (noCode rfl)
    have mv : Mv Y' Y' s''.heap (s''.heap.update kS (Obj.mapSeq (·.push kv))) := ⟨fun _ z => .inl z, fun b o e yb _ => kqk.keep b o e fun q => yb (.inr (.inr q))⟩
    refine ⟨ks ++ [kv], c2, (k'.trans kc fun _ z => z.elim).trans (kqk.kp (s := s'') (tk := s''.toks) (V.high hBk)) fun b e => .inl (e ▸ hsk), Ic.step V kqk hBk, (sbk.2 _ hDk).trans hDc, hc2, by omega, ?_⟩
    rw [List.range_succ, List.map_append]
    exact ((il.step kc).move mv).append (.cons (ic.move mv) .nil)
  · obtain ⟨ks, e, k4, I4, hD4, hk4, _, il⟩ := hJ
    rw [Nat.zero_add, hvl] at il
    have ksl := il.length
    rw [List.length_map, List.length_range] at ksl
    (try dsimp only)
    refine wpAny_bind (PyProof.Rows.listItems_at hk4 rfl ?_)
    unfold PyProof.Rows.ksk_end
    (try dsimp only)
    rw [if_neg (by decide)]
    have hn2 : ¬ vs.toArray.size < 2 := by rw [List.size_toArray]; omega
    rw [if_neg hn2, if_neg hn2]
    obtain ⟨fs, ht, hfl, hfi⟩ := keys_tups (st := st) (List.range 5) ks il
    refine wpAny_bind (PySem.W.kat_kind (T := .type "int") ht (by omega) (fun v hv => by obtain ⟨i, t, rfl⟩ := hfi v hv; exact Looks.of_pure rfl) (by decide) ?_)
    have hkk : (Value.type "int" != Value.type "tuple") = true := by decide
    rw [hkk]
    have key : ∀ k, k < 5 → ∃ a t u, ks.getD k Value.none = .ref a ∧ s4.heap.IsTuple a (List.toArray [.int (st.getD k 0) t, .int k u]) := fun k hk => by
      obtain ⟨kv, h1, h2⟩ := il.get k (d := keyD st k) (by rw [List.getElem?_map, List.getElem?_range hk]; rfl)
      obtain ⟨a, t, u, rfl, _, htt⟩ := keyD_is h2
      exact ⟨a, t, u, by rw [List.getD_eq_getElem?_getD, h1]; rfl, htt⟩
    refine wpAny_bind (wpAny_mono (PySem.W.kat_run (ks := ks) (vs := vs) (Q := fun st' s' => ∃ p : Array Nat, p.toList = turnsOf st ∧ p.size ≤ 60 ∧ arrOf st' = p.map (PySem.W.kas_item ((List.toArray ks).zip (List.toArray vs))) ∧ failedOf st' = none ∧ s' = s4) (G := fun p s' => p.toList = turnsOf st ∧ s' = s4)
      (by omega) (by omega) (by omega) (fun p st' s' a1 a2 a3 a4 => ⟨p, a4.1, by omega, a2, a3, a4.2⟩) ?_) ?_ fun _ _ z => z)
    · rw [hvl]
      refine kasWp_runR (lt := ltK st) (n := 5) (fun i j C hi hj hC => ?_) _ sort5_inR ⟨rfl, rfl⟩
      obtain ⟨a, t1, u1, ea, oa, hoa, hca, na, hda⟩ := key i hi
      obtain ⟨b, t2, u2, eb, ob, hob, hcb, nb, hdb⟩ := key j hj
      unfold PySem.W.kas_ask
      rw [ea, eb]
      refine PySem.W.kat_lt hoa hda hob hdb ?_
      show PySem.W.KatLex _ _ _ true (decide (2 < 2)) C [(.int (st.getD i 0) t1, .int (st.getD j 0) t2), (.int i u1, .int j u2)] 0 s4
      refine PySem.W.kat_cons (wpAny_eqBool_int ?_)
      unfold ltK at hC
      by_cases h : st.getD i 0 = st.getD j 0
      · rw [if_pos h] at hC
        have e1 : (st.getD i 0 == st.getD j 0) = true := by simpa using h
        rw [e1]
        refine PySem.W.kat_yes (PySem.W.kat_cons (wpAny_eqBool_int ?_))
        by_cases h2 : i = j
        · have e2 : ((i : Int) == (j : Int)) = true := beq_iff_eq.mpr (by omega)
          rw [e2]
          refine PySem.W.kat_yes (PySem.W.kat_nil ?_)
          rw [h2] at hC
          simpa using hC
        · have e2 : ((i : Int) == (j : Int)) = false := beq_eq_false_iff_ne.mpr (by omega)
          rw [e2]
          refine PySem.W.kat_no ?_
          have e3 : (true && (0 + 1 == 0)) = false := by decide
          rw [e3]
          refine PySem.W.kat_one _ _ (lt_int ?_)
          have e4 : decide ((i : Int) < (j : Int)) = decide (i < j) := by simp
          rw [e4]; exact hC
      · rw [if_neg h] at hC
        have e1 : (st.getD i 0 == st.getD j 0) = false := by simpa using h
        rw [e1]
        refine PySem.W.kat_no ?_
        have e3 : (true && (0 == 0)) = true := by decide
        rw [e3]
        exact oneLt_int hC
    · rintro ⟨⟨⟩, st'⟩ s' ⟨p, hp, hpz, har, hf, rfl⟩
      dsimp only
      unfold PyProof.Rows.ksk_tail
      dsimp only
      have hout := PySem.W.kat_snds (ks := ks) (vs := vs) (by omega) har
      rw [hp] at hout
      rw [hout]
      have hol : (turnsOf st).length ≤ 60 := by
        have h1 := congrArg Array.size hout
        have h2 : (arrOf st').size = p.size := by rw [har, Array.size_map]
        have h3 : p.size = (turnsOf st).length := by rw [← hp, Array.length_toList]
        rw [← h3]
        exact hpz
      have hfin : ∀ Y h, D.IsL Y h ((turnsOf st).map nat) ((turnsOf st).map fun i => vs.getD i Value.none) := fun Y h => by
        have : ∀ l : List Nat, (∀ k ∈ l, k < 5) → D.IsL Y h (l.map nat) (l.map fun i => vs.getD i Value.none) := fun l => by
          induction l with
          | nil => intro _; exact D.IsL.nil
          | cons k l ih =>
            intro hk
            obtain ⟨t, ht⟩ := hvg k (hk k (.head _))
            refine D.IsL.cons ?_ (ih fun k h => hk k (.tail _ h))
            show D.Is Y h (nat k) (vs.getD k Value.none)
            rw [List.getD_eq_getElem?_getD, ht]; exact D.Is.int
        exact this _ htn
      generalize (turnsOf st).map (fun i => vs.getD i Value.none) = out at hfin ⊢
      have houtl := (hfin Y s'.heap).length
      rw [List.length_map] at houtl
      have sbk := Heap.SameBut.update s'.heap kS (Obj.mapSeq fun _ => (#[] : Array Value))
      have kqk : Kq (fun b => b = kS) s'.heap (s'.heap.update kS (Obj.mapSeq fun _ => (#[] : Array Value))) := Kq.one sbk hk4 (noCode rfl)
      have hD5 := (sbk.2 _ hDk).trans hD4
      refine wpAny_bind (PyProof.Rows.listUpdate_at hk4 rfl ?_ (by rw [List.size_toArray, sizeLine_eq]; omega) (Nat.zero_le _))
      refine wpAny_bind (wpAny_letGo ?_)
      refine wpAny_bind (PyProof.Rows.seqEpoch_at hD5 rfl ?_)
      refine wpAny_bind (PyProof.Rows.listUpdate_at hD5 rfl ?_ (Nat.zero_le _) (by show (List.toArray out).size ≤ _; rw [List.size_toArray, sizeLine_eq]; omega))
      rw [hf]
      simp only [bne_self_eq_false, Bool.false_eq_true, if_false]
      obtain ⟨c6, hc6⟩ : ∃ c6, ((s'.heap.update kS (Obj.mapSeq fun _ => (#[] : Array Value))).update Dl (Obj.mapSeq fun _ => List.toArray out)).get? Dl = some (seqObj "list" (List.toArray out) c6) := ⟨_, PyProof.Rows.get?_update_seq hD5 fun _ => List.toArray out⟩
      have sbd := Heap.SameBut.update (s'.heap.update kS (Obj.mapSeq fun _ => (#[] : Array Value))) Dl (Obj.mapSeq fun _ => List.toArray out)
      have kqd : Kq (fun b => b = Dl) (s'.heap.update kS (Obj.mapSeq fun _ => (#[] : Array Value))) ((s'.heap.update kS (Obj.mapSeq fun _ => (#[] : Array Value))).update Dl (Obj.mapSeq fun _ => List.toArray out)) := Kq.one sbd hD5 (noCode rfl)
      have I5 := I4.step V kqk hBk
      have I6 := I5.step V kqd hBd
      have kp5 := kqk.kp (s := s') (tk := s'.toks) (V.high hBk)
      have kp6 := kqd.kp (s := { s' with heap := s'.heap.update kS (Obj.mapSeq fun _ => (#[] : Array Value)) }) (tk := s'.toks) (V.high hBd)
      have kall : Kp (fun b => s.heap.objs.size ≤ b) s { s' with heap := (s'.heap.update kS (Obj.mapSeq fun _ => (#[] : Array Value))).update Dl (Obj.mapSeq fun _ => List.toArray out) } := (k4.trans kp5 fun b e => .inl (e ▸ hsk)).trans kp6 fun b e => .inl (e ▸ hsD)
      refine wpAny_pure ⟨_, rfl, wpAny_pure ⟨_, rfl, kall.weaken fun b z => .inr z, I6, ?_⟩⟩
      simp only [D.Is]
      exact ⟨Dl, out, rfl, ⟨fun z => absurd (y _ z).1 (Nat.not_lt.mpr hsD), cls_notab I6 hc6 (by simp [seqObj])⟩, ⟨_, hc6, rfl, c6, rfl⟩, hfin _ _⟩
end
end Mine
end
section -- S61
open PySem PySem.W PyProof.Rows PySem.Calls PySem.Spec
set_option Elab.async false
set_option maxRecDepth 100000
set_option linter.unusedVariables false
set_option autoImplicit false
set_option pp.maxSteps 600
namespace Mine
section
variable {W : Wd} {f : Fd} {ρ ρ' : List Vr} {μ : Mu} {n : Nat}

noncomputable def LamNew (W : Wd) (name qual : Str) (params : Arguments) (body : Expr) (scope : Scope) (clos : List (Str × Addr)) (s : Shared) (v : Value) (s' : Shared) : Prop :=
  ∃ fa pm code ctv, v = .ref fa ∧ s.heap.objs.size ≤ fa ∧ fa < s'.heap.objs.size ∧ s'.heap.get? fa = some { cls := .type "function", data := .func (PySem.W.kla_fn name qual params body scope clos pm code ctv) } ∧ CodeIs s'.heap code qual ∧ Kp No s s' ∧ Inv W s'.heap
end
theorem mkLam {W : Wd} {A : Around} {s : Shared} {name qual : Str} {params : Arguments} {body : Expr} {scope : Scope} {env : Env} {c P : Addr} {pos : Pos} {firstLine : Nat} {clos : List (Str × Addr)} (V : W.Ok) (I : Inv W s.heap)
    (hm : (c, P, qual) ∈ tabsL) (hC : codeHdIn W.K c P = true) (hcl : closureFor scope env = pure clos) (hge0 : env.globals = mainGlobals) (hcode : env.code = .ref c) :
    wpAny W.M A (makeFunction name qual params (.expr body) scope env [] [] [] pos firstLine) (LamNew W name qual params body scope clos s) Fz s := by
  have C : CodeHd s.heap c P := codeHd_of_K I.K hC
  have hT : isTab P := ⟨_, hm, rfl⟩
  obtain ⟨ps, hP, ht, hold⟩ := I.tab _ hm
  have hb : s.heap.BuiltinsAt W.mg P := by
    obtain ⟨bm, ob, h1, h2, h3, h4, h5⟩ := I.bm
    obtain ⟨bm', h1', hne, _, hnt⟩ := V.bm
    rw [h1] at h1'; cases h1'
    refine ⟨bm, ob, h1, hne, fun q => ?_, fun q => hnt (by rw [q]; exact hT), h2, h3, h4, h5⟩
    obtain ⟨o, es, ep, e, hd, _⟩ := I.g
    rw [q, e] at h2; cases h2; rw [hd] at h5; cases h5
  have hgP : mainGlobals ≠ P := fun q => V.offM.1 (by rw [q]; exact hT)
  cases hf : codeAmong pos ps.toList with
  | some cv =>
    refine PySem.W.kla_makeFunctionHit hcl hge0 I.g hcode C hP ht hf hb fun ctv h' tk hk hsz => ?_
    have kq : Kq No s.heap (h'.push { cls := .type "function", data := .func (PySem.W.kla_fn name qual params body scope clos ((W.mg "__name__").getD .none) cv ctv) }) :=
      (Kq.all hk hsz).trans (.push _ _) fun _ z => .inl z
    refine ⟨h'.objs.size, _, cv, ctv, rfl, hsz, by show _ < (h'.push _).objs.size; rw [Heap.size_push]; exact Nat.lt_succ_self _, Heap.get?_push_size _ rfl, ((hold pos cv hf).step kq.code), kq.kp (fun _ _ z => z), I.step V kq fun _ z => z.elim⟩
  | none =>
    rw [makeFunction_eq]
    simp only [List.zip_nil_right, List.filterMap_nil, List.isEmpty_nil, if_true, pure_bind]
    obtain ⟨bm, ob, hbm, hne0, _, hneP, hbo, hcls, hdict, hdata⟩ := hb
    -- what the rest of the making does, once the code stands
    have fin : ∀ (h0 : Heap) (c' : Addr) (ctv : Value) (h' : Heap) (tk : Tok), Kq No s.heap h0 → h0.get? P = some (tabObj ps) → Heap.ExtBut P h0 h' → h0.objs.size ≤ c' → c' < h'.objs.size → h'.CodeRec (.ref c') qual → (∃ P', h'.TableAt c' P' #[]) → h'.get? P = some (tabObj (ps ++ #[rawInt pos.line, rawInt pos.col, .ref c'])) →
        LamNew W name qual params body scope clos s (.ref h'.objs.size) { s with heap := h'.push (PySem.W.kla_obj name qual params body scope clos ((W.mg "__name__").getD .none) c' ctv), toks := tk } := fun h0 c' ctv h' tk k0 hP0 hx hge hlt hrec htab htb => by
      have hc' : CodeIs h' (.ref c') qual := by
        obtain ⟨c2, o, vs, t, e, g, hd, hv⟩ := hrec
        cases e
        obtain ⟨P', ⟨o', vs', g', hcl', _, _⟩, _⟩ := htab
        rw [g] at g'; cases g'
        exact ⟨c', o, vs, t, rfl, g, hcl', hd, hv⟩
      have hx0 : Heap.ExtBut P s.heap h' := fun b o hb e => hx b o hb (k0.keep b o e fun z => z)
      have hsz : s.heap.objs.size ≤ h'.objs.size := Nat.le_trans (Nat.le_trans k0.size hge) (Nat.le_of_lt hlt)
      have I1 : Inv W h' := I.grow V hm hP ht hold hf hx0 hsz hc' htb
      have kq : Kq No h' (h'.push (PySem.W.kla_obj name qual params body scope clos ((W.mg "__name__").getD .none) c' ctv)) := .push _ _
      have kp : Kp No s { s with heap := h', toks := tk } := .grow hT hP hx0 hsz htb
      refine ⟨h'.objs.size, _, .ref c', ctv, rfl, hsz, by show _ < (h'.push _).objs.size; rw [Heap.size_push]; exact Nat.lt_succ_self _, Heap.get?_push_size _ rfl, hc'.step kq.code, ?_, I1.step V kq fun _ z => z.elim⟩
      exact kp.trans0 (Kq.kp (s := { s with heap := h', toks := tk }) kq (fun _ _ z => z))
    unfold makeTail
    rw [hcl, hge0]
    refine wpAny_bind (wpAny_pure ?_)
    cases clos with
    | nil =>
      simp only [List.isEmpty_nil, if_true]
      refine wpAny_bind (wpAny_pure ?_)
      refine wpAny_bind (wpAny_functionCodeX hcode (C.code hP ht) (C.tab hP) hf fun c' h' tk hx hge hlt _ hrec htb hP' => ?_)
      have hg' := I.g.extBut hx hgP
      refine wpAny_bind (wpAny_builtinsFor hg' hbm hne0 (hx _ _ hneP hbo) hcls hdict hdata ?_)
      refine wpAny_bind (wpAny_nsGet hg' ?_)
      have hP2 : ∃ P', h'.TableAt c' P' #[] := let ⟨P', _, _, x⟩ := hP'; ⟨P', x⟩
      exact wpAny_bind (wpAny_pure (wpAny_newObj_type (fin s.heap c' .none h' tk (.refl _) hP hx hge hlt hrec hP2 htb.2) (by size_fits)))
    | cons q r =>
      simp only [List.isEmpty_cons, Bool.false_eq_true, if_false]
      refine wpAny_bind (wpAny_newTextTuple ?_)
      refine wpAny_bind (wpAny_functionCodeX hcode ((C.keeps fun b o e => Heap.get?_push_of_some _ e).code (Heap.get?_push_of_some _ hP) ht) ((C.keeps fun b o e => Heap.get?_push_of_some _ e).tab (Heap.get?_push_of_some _ hP)) hf fun c' h' tk hx hge hlt _ hrec htb hP' => ?_)
      have hg' := (I.g.push _).extBut hx hgP
      refine wpAny_bind (wpAny_builtinsFor hg' hbm hne0 (hx _ _ hneP (Heap.get?_push_of_some _ hbo)) hcls hdict hdata ?_)
      refine wpAny_bind (wpAny_nsGet hg' ?_)
      have hP2 : ∃ P', h'.TableAt c' P' #[] := let ⟨P', _, _, x⟩ := hP'; ⟨P', x⟩
      exact wpAny_bind (wpAny_pure (wpAny_newObj_type (fin _ c' _ h' tk (.push _ _) (Heap.get?_push_of_some _ hP) hx hge hlt hrec hP2 htb.2) (by size_fits)))
section
variable {W : Wd} {f : Fd} {ρ ρ' : List Vr} {μ : Mu} {n : Nat}
/-- a call of a def that keeps cells of its outer frame -/
theorem lamClo {A : Around} {s : Shared} {Y : Addr → Prop} {fa : Addr} {od : Option Addr} {fd : FuncData} {vs : List Value} {sc : Scope} {body : Expr} {ps un : List Str} {caps : List (Str × D)} {ds : List D} {d : D} (V : W.Ok) (r : Rm (n + 1) A) (I : Inv W s.heap) (y : Yk W Y s.heap)
    (h1 : s.heap.get? fa = some ⟨.type "function", od, .func fd, #[]⟩) (h2 : CodeIs s.heap fd.code fd.qualname) (h3 : fd.scope = sc) (h4 : fd.body = .expr body) (h5 : fd.globals = mainGlobals) (h6 : fd.builtins = builtinsNs)
    (h7 : bindArgs fd ⟨vs, []⟩ = pure (ps.zip vs)) (h8 : ∀ q ∈ caps, ∃ c u, fd.closure.lookup q.1 = some c ∧ s.heap.IsCell c (some u) ∧ D.Is Y s.heap q.2 u)
    (il : D.IsL Y s.heap ds vs) (hlen : ds.length = ps.length)
    (hcell : ∀ x ∈ sc.names, x.2 ≠ .cell) (hloc : ∀ x ∈ ps, sc.names.lookup x = some .local) (hcap : ∀ q ∈ caps, sc.names.lookup q.1 = some .free) (hgen : sc.isGenerator = false) (hco : sc.isCoroutine = false) (hkf : sc.kind = .function)
    (hnod : (ps ++ (un ++ caps.map (·.1))).Nodup)
    (hrt : ∀ X L cl qual fa code, Ev W n (fdG sc cl qual fa code (ps ++ (un ++ caps.map (·.1))) X L) (ρG ds un.length caps) body d) :
    wpAny W.M A (call (.ref fa) vs) (Pv W Y s d) Fz s := by
  subst h3
  have hvl := il.length
  refine wpAny_call (PySem.W.kla_callFunE r.depth h1 rfl hco hgen h4 h2.rec ?_)
  rw [h7]
  refine wpAny_pure (wpAny_newFunctionEnv hcell (fun x hx => hloc x.1 (List.of_mem_zip hx).1) (fun h' hns hsb => ?_) hkf)
  have keep : ∀ b o, s.heap.get? b = some o → h'.get? b = some o := fun b o e => hsb.extBut b o (Nat.ne_of_lt (Heap.lt_size e)) (Heap.get?_push_of_some _ e)
  have hsz : h'.objs.size = s.heap.objs.size + 1 := by rw [hsb.1, Heap.size_push]
  have kq : Kq No s.heap h' := .all keep (by rw [hsz]; exact Nat.le_succ _)
  have I1 : Inv W h' := I.step V kq fun _ z => z.elim
  refine ⟨I.lim.keeps keep, PySem.W.kla_codeExpr ?_⟩
  generalize hL : s.heap.objs.size = L at *
  have k1 : ∀ tk, Kp No s { s with heap := h', toks := tk } := fun tk => kq.kp fun _ _ z => z
  let μ0 : Mu := ⟨(· = L), fun _ => 0⟩
  have mv : ∀ cl qual code nm, Mv Y (Yo (fdG fd.scope cl qual fa code nm Y L) μ0) s.heap h' := fun cl qual code nm => ⟨fun b z => by
    rcases z with z | z
    · exact .inl z
    · exact .inr (by rw [hL]; exact Nat.le_of_eq z.symm), fun b o e _ t => keep b o e⟩
  have hWB : W.B ≤ L := by rw [← hL]; exact I.size
  have F3 : Fm W (fdG fd.scope fd.closure (fd.qualname ++ ".<locals>.") fa fd.code (ps ++ (un ++ caps.map (·.1))) Y L) (ρG ds un.length caps) μ0 h' := by
    refine ⟨hkf, rfl, rfl, hnod, ⟨_, hns⟩, rfl, (fun q => by cases q), (fun q => by cases q), fun i z d hi hd => ?_, fun i z l _ hl => (ρG_box hl).elim, fun b z => ?_, fun b z => Nat.le_of_eq (Eq.symm z), hWB⟩
    · have hi : (ps ++ (un ++ caps.map (·.1)))[i]? = some z := hi
      rcases Nat.lt_or_ge i ds.length with hl | hl
      · have hd' : ds[i]? = some d := by
          unfold ρG at hd
          rw [List.getElem?_append_left (by simpa using hl), List.getElem?_map] at hd
          cases e : ds[i]? with
          | none => rw [e] at hd; cases hd
          | some d' => rw [e] at hd; cases hd; rfl
        have hi' : ps[i]? = some z := by rwa [List.getElem?_append_left (by rw [← hlen]; exact hl)] at hi
        obtain ⟨u, hu, iu⟩ := il.get i hd'
        have hmem : (z, u) ∈ ps.zip vs := List.mem_of_getElem? (i := i) (by rw [List.getElem?_zip_eq_some]; exact ⟨hi', hu⟩)
        have hnz : ((ps.zip vs).map (·.1)).Nodup := by
          rw [zip_fst ps vs (by rw [hvl, hlen]; exact Nat.le_refl _)]
          exact (List.nodup_append.mp hnod).1.sublist (List.take_sublist _ _)
        exact ⟨u, .inl ⟨hloc z (List.mem_of_getElem? hi'), _, hns, lookup_rev hnz hmem⟩, iu.move (mv _ _ _ _)⟩
      · unfold ρG at hd
        rw [List.getElem?_append_right (by simpa using hl)] at hd
        rw [List.getElem?_append_right (by rw [← hlen]; exact hl)] at hi
        obtain ⟨hle, hd2⟩ := getElem?_pad hd
        rw [List.length_map] at hle hd2
        rw [← hlen, List.getElem?_append_right hle] at hi
        rw [List.getElem?_map] at hd2 hi
        cases hq : caps[i - ds.length - un.length]? with
        | none => rw [hq] at hd2; cases hd2
        | some q =>
          rw [hq] at hd2 hi
          cases hd2; cases hi
          have hqm := List.mem_of_getElem? hq
          obtain ⟨c, u, a, b, iu⟩ := h8 q hqm
          obtain ⟨o, ho, hdd⟩ := b
          exact ⟨u, .inr ⟨.inr (hcap q hqm), c, a, ⟨o, keep _ _ ho, hdd⟩⟩, iu.move (mv _ _ _ _)⟩
    · rcases z with z | z
      · have := y b z
        rw [hL] at this
        exact ⟨by rw [hsz]; exact Nat.lt_succ_of_lt this.1, this.2⟩
      · rw [show b = L from z]; exact ⟨by rw [hsz]; exact Nat.lt_succ_self _, hWB⟩
  rw [h5, h6]
  refine wpAny_mono (hrt Y L fd.closure _ fa fd.code _ (r.deeper _) _ μ0 I1 F3) (fun v s' p => ?_) fun _ _ z => z.elim
  exact ⟨(k1 _).trans0 p.1, p.2.1, p.2.2.drop fun _ z => .inl z⟩
end
end Mine
end
section -- S62
open PySem PySem.W PyProof.Rows PySem.Calls PySem.Spec
set_option Elab.async false
set_option maxRecDepth 100000
set_option linter.unusedVariables false
set_option autoImplicit false
set_option pp.maxSteps 600
namespace Mine
section
variable {W : Wd} {f : Fd} {ρ ρ' : List Vr} {μ : Mu} {n : Nat}

theorem evalArgs_kwL {M : Model} {A : Around} {E : Value → Shared → Prop} {s : Shared} {f : Value} {x : Sem Value} {k : Str} {Q : Args → Shared → Prop} : ∀ {args : List (Bool × Sem Value)}, args.any (·.1) = false →
    wpAny M A (spliced args) (fun vs s' => wpAny M A x (fun v s'' => Q ⟨vs, [(k, v)]⟩ s'') E s') E s → wpAny M A (evalArgs f true args [(some k, x)]) Q E s
  | [], _, h => by
    unfold evalArgs
    show wpAny M A (spliced [] >>= _) Q E s
    refine wpAny_bind (wpAny_mono h (fun vs s' h' => ?_) fun _ _ z => z)
    show wpAny M A (holding _ (evalAll [x] >>= _)) Q E s'
    refine wpAny_holding (wpAny_bind (wpAny_evalAll_cons (wpAny_mono h' (fun v s'' h'' => wpAny_evalAll_nil ?_) fun _ _ z => z)))
    exact wpAny_bind (wpAny_pure (wpAny_pure h''))
  | (false, y) :: rest, _, h => by
    unfold evalArgs
    show wpAny M A (spliced ((false, y) :: rest) >>= _) Q E s
    refine wpAny_bind (wpAny_mono h (fun vs s' h' => ?_) fun _ _ z => z)
    show wpAny M A (holding _ (evalAll [x] >>= _)) Q E s'
    refine wpAny_holding (wpAny_bind (wpAny_evalAll_cons (wpAny_mono h' (fun v s'' h'' => wpAny_evalAll_nil ?_) fun _ _ z => z)))
    exact wpAny_bind (wpAny_pure (wpAny_pure h''))
  | (true, y) :: rest, e, h => by simp at e
/-- sorted(range(5), key=lambda k: (starts[k], k)) -/
theorem Ev.sorted5 {pl p1 p2 pos : Pos} {k5 : Nat} {pc : Pos} {params : Arguments} {body : Expr} {scope : Scope} {plm : Pos} {kws : List Keyword} {kwv : Sem Value} {st : List Int} {i0 : Nat} {clos : List (Str × Addr)} {m : Nat} (V : W.Ok) (hn : n = m + 12) (hst : st.length = 5) (htn : ∀ k ∈ turnsOf st, k < 5)
    (hsorted : Ev W n f ρ (.Name "sorted" pl) (.val (.builtin "sorted"))) (hrange : Ev W n f ρ (.Name "range" p1) (.val (.type "range")))
    (hkw : backToKw pos (keywordEach kws f.env) = [(some (Str.ofString "key"), kwv)]) (hkwe : kwv = (do let v ← eval (.Lambda params body scope plm) f.env; standAt pos; pure v))
    (hm : ((209 : Addr), (207 : Addr), Str.ofString "law.<locals>.<lambda>") ∈ tabsL) (hC : codeHdIn W.K 209 207 = true) (hcl : closureFor scope f.env = pure clos) (hcode : f.env.code = .ref 209) (hq : f.env.qual ++ "<lambda>" = Str.ofString "law.<locals>.<lambda>")
    (hdef : defaultsOf params f.env = ([], [])) (hi0 : f.nm[i0]? = some (S "starts")) (hr0 : ρ[i0]? = some (Vr.val (.lst (st.map D.int)))) (hk0 : f.env.kindOf (S "starts") = some .cell) (hlk : clos.lookup (S "starts") = f.env.cells.lookup (S "starts"))
    (hsc : scopeOk scope [S "k"] [S "starts"] = true) (hgen : scope.isGenerator = false) (hco : scope.isCoroutine = false) (hkf : scope.kind = .function)
    (hbind : ∀ pm code ctv (v : Value), bindArgs (PySem.W.kla_fn "<lambda>" (Str.ofString "law.<locals>.<lambda>") params body scope clos pm code ctv) ⟨[v], []⟩ = pure ([S "k"].zip [v]))
    (hbody : ∀ k, k < 5 → ∀ X L cl qual fa code, Ev W 2 (fdG scope cl qual fa code [S "k", S "starts"] X L) [.val (nat k), .val (.lst (st.map D.int))] body (keyD st k))
    (hs1 : (backTo p2 (starEach [.Constant (.int 5) k5 pc] f.env)).any (·.1) = false := by rfl)
    (hv1 : eval (.Call (.Name "range" p1) [.Constant (.int 5) k5 pc] [] p2) f.env = (do callWith p2 (← eval (.Name "range" p1) f.env) [] (backTo p2 (starEach [.Constant (.int 5) k5 pc] f.env)) (backToKw p2 (keywordEach [] f.env))) := by rfl)
    (hs2 : (backTo pos (starEach [.Call (.Name "range" p1) [.Constant (.int 5) k5 pc] [] p2] f.env)).any (·.1) = false := by rfl)
    (he2 : starEach [.Call (.Name "range" p1) [.Constant (.int 5) k5 pc] [] p2] f.env = (false, eval (.Call (.Name "range" p1) [.Constant (.int 5) k5 pc] [] p2) f.env) :: starEach [] f.env := by rfl)
    (hv2 : eval (.Call (.Name "sorted" pl) [.Call (.Name "range" p1) [.Constant (.int 5) k5 pc] [] p2] kws pos) f.env = (do callWith pos (← eval (.Name "sorted" pl) f.env) [] (backTo pos (starEach [.Call (.Name "range" p1) [.Constant (.int 5) k5 pc] [] p2] f.env)) (backToKw pos (keywordEach kws f.env))) := by rfl) :
    Ev W n f ρ (.Call (.Name "sorted" pl) [.Call (.Name "range" p1) [.Constant (.int 5) k5 pc] [] p2] kws pos) (.lst ((turnsOf st).map nat)) := by
  intro A r s μ I F
  subst hn
  rw [hv2]
  refine wpAny_bind (hsorted.use r I F fun v s1 k1 I1 F1 i1 => ?_)
  obtain rfl := D.Is.val_iff.mp i1
  rw [hkw, hkwe]
  refine callWith_of (P := Inv W) (by rw [hs2]; rfl) Kept.builtin (evalArgs_kwL hs2 ?_)
  refine wpAny_items_cons (he := he2) (evCall hrange (EvL.cons (d := .int ((5 : Nat) : Int)) Ev.int EvL.nil) Kept.type r I1 F1 (fun s2 vs k2 I2 F2 il => ?_) hs1 hv1)
  simp only [D.IsL, D.Is] at il
  obtain ⟨v, r', rfl, ⟨t, rfl⟩, rfl⟩ := il
  refine call_range_1 (wpAny_items_nil ?_)
  have kq : Kq No s2.heap (s2.heap.push { cls := .type "range", data := .fields #[.int 0 s2.toks, .int ((5 : Nat) : Int) t, .int 1 (s2.toks + 1)] }) := .push _ _
  have k3 : Kp No s2 { s2 with heap := s2.heap.push { cls := .type "range", data := .fields #[.int 0 s2.toks, .int ((5 : Nat) : Int) t, .int 1 (s2.toks + 1)] }, toks := s2.toks + 1 + 1 } := kq.kp fun _ _ z => z
  have I3 := I2.step V kq fun _ z => z.elim
  have F3 := F2.step I2 k3
  have hr3 := IsRange.new s2.heap 0 ((5 : Nat) : Int) 1 s2.toks t (s2.toks + 1)
  refine wpAny_bind (PySem.W.kla_eval hdef ?_)
  rw [hq]
  refine wpAny_mono (mkLam V I3 hm hC hcl F.glob hcode) (fun fv s4 p => wpAny_bind (wpAny_standAt (wpAny_pure ?_))) fun _ _ z => z
  obtain ⟨fa, pm, code, ctv, rfl, h1, h2, h3, h4, k4, I4⟩ := p
  have F4 := F3.step I3 k4
  have hr4 : IsRange s4.heap s2.heap.objs.size 0 ((5 : Nat) : Int) 1 s2.toks t (s2.toks + 1) := k4.keep _ _ hr3 (fun z => z) (cls_notab I3 hr3 (by simp))
  refine ⟨I4, ?_⟩
  have k14 := ((k1.trans0 k2).trans0 k3).trans0 k4
  obtain ⟨us, Hs, is⟩ := F4.val i0 (S "starts") _ hi0 hr0
  obtain ⟨cs, hcs, hcc⟩ : ∃ c, f.env.cells.lookup (S "starts") = some c ∧ s4.heap.IsCell c (some us) := by
    rcases Hs with ⟨a, _⟩ | ⟨_, c, l, hc⟩
    · rw [hk0] at a; cases a
    · exact ⟨c, l, hc⟩
  refine wpAny_mono (sortedGo (q := fa) (st := st) V r.hd I4 F4.yk hr4 htn rfl (fun k hk s5 Y' t' k5 I5 y5 hY => ?_)) (fun v s5 p => Pv.trans k14 p) fun _ _ z => z
  have old : ∀ b o, s4.heap.get? b = some o → ¬ isTab b → s5.heap.get? b = some o := fun b o e t => k5.keep b o e (fun z => absurd (Heap.lt_size e) (Nat.not_lt.mpr z)) t
  have ho5 := old _ _ h3 (cls_notab I4 h3 (by simp))
  have hc5 : s5.heap.IsCell cs (some us) := let ⟨o, ho, hd⟩ := hcc; ⟨o, old _ _ ho (cell_notab I4 hcc), hd⟩
  have is5 : (D.lst (st.map D.int)).Is Y' s5.heap us := is.move ⟨fun b yb => hY b yb, fun b o e _ t => old b o e t⟩
  have r2 : Rm (2 + 1) A.in1.in1 := (r.in1.in1).le (by first | decide | omega)
  refine lamClo (n := 2) (ps := [S "k"]) (un := []) (caps := [(S "starts", .lst (st.map D.int))]) (ds := [nat k]) (d := keyD st k) V r2 I5 y5 ho5 (h4.step k5.code) rfl rfl rfl rfl (hbind _ _ _ _) (fun q hq => ?_) (.cons D.Is.int .nil) rfl (scopeOk.cell hsc) (scopeOk.loc hsc) (fun q hq => scopeOk.cap hsc q.1 (List.mem_map_of_mem (f := Prod.fst) hq)) hgen hco hkf (show ([S "k", S "starts"] : List Str).Nodup by decide) (fun X L cl qual fa code => hbody k hk X L cl qual fa code)
  cases List.mem_singleton.mp hq
  exact ⟨cs, us, hlk.trans hcs, hc5, is5⟩
end
end Mine
end
section -- S63
open PySem PySem.W PyProof.Rows PySem.Calls PySem.Spec
set_option Elab.async false
set_option maxRecDepth 100000
set_option linter.unusedVariables false
set_option autoImplicit false
set_option pp.maxSteps 600
namespace Mine
section
variable {W : Wd} {f : Fd} {ρ ρ' : List Vr} {μ : Mu} {n : Nat}

noncomputable def step1 (acc : List Str) (x : Str) : List Str := if acc.any (· == x) then acc else acc ++ [x]
noncomputable def dis (xs : List Str) : List Str := xs.foldl step1 []
theorem dis_snoc (xs : List Str) (x : Str) : dis (xs ++ [x]) = step1 (dis xs) x := by unfold dis; rw [List.foldl_append]; rfl
theorem dis_len : ∀ (xs : List Str) (acc : List Str), (xs.foldl step1 acc).length ≤ acc.length + xs.length
  | [], acc => by simp
  | x :: r, acc => by
    have h := dis_len r (step1 acc x)
    rw [List.foldl_cons, List.length_cons]
    have : (step1 acc x).length ≤ acc.length + 1 := by unfold step1; split <;> simp
    omega
theorem step1_any (σ : List Str) (v k : Str) : (step1 σ v).any (· == k) = (σ.any (· == k) || decide (k = v)) := by
  unfold step1
  by_cases h : σ.any (· == v) = true
  · rw [if_pos h]
    by_cases e : k = v
    · subst e; rw [h]; simp
    · simp [e]
  · rw [if_neg h, List.any_append]
    by_cases e : k = v
    · subst e; simp
    · have hb : (v == k) = false := by simpa [beq_iff_eq] using (fun h' : v = k => e h'.symm)
      simp [hb, e]
theorem step1_len (σ : List Str) (v : Str) : (step1 σ v).length = if σ.any (· == v) then σ.length else σ.length + 1 := by
  unfold step1; split <;> simp
section
variable {prog : Program} {w : World} {A : Around} {R : Result → Shared → Prop} {S I l : Addr} {xs : List Str} {vs : List Value}
theorem setLoopS (hh : A.handled = none) (hSI : S ≠ I) (hSl : S ≠ l) (hIl : I ≠ l) (hvl : vs.length = xs.length) (hvs : ∀ (i : Nat) (x : Str), xs[i]? = some x → ∃ t, vs[i]? = some (Value.str x t)) (hb : xs.length ≤ 100) :
    ∀ (k i : Nat) (s : Shared), i + k = xs.length → s.heap.IsListIter I l i → s.heap.IsList l vs.toArray → s.heap.SetOf (strKind prog w) S (fun k' => (dis (xs.take i)).any (· == k')) (dis (xs.take i)).length →
      (∀ h' tk, (∀ b o, b ≠ S → b ≠ I → s.heap.get? b = some o → h'.get? b = some o) → s.heap.objs.size ≤ h'.objs.size → h'.SetOf (strKind prog w) S (fun k' => (dis xs).any (· == k')) (dis xs).length → R (.ok (.ret .none)) { s with heap := h', toks := tk }) →
      codeAny (model prog w) A (.builtin "set.update.loop" ⟨[.ref S, .ref I], []⟩) R s := by
  intro k
  induction k with
  | zero =>
    intro i s hk hit hl hS hR
    have hi : i = xs.length := by omega
    refine codeAny_builtin PyProof.Rows.F.entry_set_update_loop ?_
    rw [Around.under_plainId PyProof.Rows.F.plain_set_update_loop _]
    show wpAny _ A.in1 (pyNext (.ref I) >>= _) _ _ s
    refine wpAny_bind (wpAny_sz (wpAny_pyNext_list_end (A := A.in1) hh hit hl (by simp; omega) fun h' he sz => ?_))
    show wpAny _ A.in1 (ret Value.none) _ _ _
    refine wpAny_pure (hR h' s.toks (fun b o _ hI e => he b o hI e) sz ?_)
    rw [hi, List.take_length] at hS
    obtain ⟨o, es, ep, t, ho, rest⟩ := hS
    exact ⟨o, es, ep, t, he S o hSI ho, rest⟩
  | succ k ih =>
    intro i s hk hit hl hS hR
    have hi : i < xs.length := by omega
    obtain ⟨t, hv⟩ := hvs i xs[i] (List.getElem?_eq_getElem hi)
    refine codeAny_builtin PyProof.Rows.F.entry_set_update_loop ?_
    rw [Around.under_plainId PyProof.Rows.F.plain_set_update_loop _]
    show wpAny _ A.in1 (pyNext (.ref I) >>= _) _ _ s
    refine wpAny_bind (wpAny_pyNext_list_item (A := A.in1) hit hl (x := Value.str xs[i] t) (by simpa using hv) fun h1 hit1 hsb1 => ?_)
    have hS1 : h1.SetOf (strKind prog w) S (fun k' => (dis (xs.take i)).any (· == k')) (dis (xs.take i)).length := by
      obtain ⟨o, es, ep, t, ho, rest⟩ := hS
      exact ⟨o, es, ep, t, (hsb1.2 S hSI).trans ho, rest⟩
    show wpAny _ A.in1 (holding [Value.str xs[i] t] (setAdd S (.str xs[i] t)) >>= _) _ _ _
    refine wpAny_bind (wpAny_holding ?_)
    unfold setAdd
    refine wpAny_holding ?_
    refine wpAny_bind ((strKind prog w).pyHash (k := xs[i]) (strKind_is _ _ _ _) ?_)
    have hroom : (dis (xs.take i)).length + 1 < scanBound := by
      have := dis_len (xs.take i) []
      rw [List.length_take] at this
      unfold scanBound
      simp only [List.length_nil] at this
      show (List.foldl step1 [] (xs.take i)).length + 1 < 4096
      omega
    refine wpAny_setAddHashed_of (knd := strKind prog w) (s := { s with heap := h1, toks := s.toks + 1 }) (strKind_is _ _ _ _) rfl hS1 hroom fun h' hsb hS2 => ?_
    have hSi : h'.SetOf (strKind prog w) S (fun k' => (dis (xs.take (i + 1))).any (· == k')) (dis (xs.take (i + 1))).length := by
      have e : xs.take (i + 1) = xs.take i ++ [xs[i]] := by rw [List.take_add_one, List.getElem?_eq_getElem hi]; rfl
      rw [e, dis_snoc]
      exact PyProof.Rows.SetOf_congr hS2 (fun k' => by rw [step1_any]) (by rw [step1_len])
    have hit2 : h'.IsListIter I l (i + 1) := by
      obtain ⟨o, ho, r⟩ := hit1
      exact ⟨o, (hsb.2 I (Ne.symm hSI)).trans ho, r⟩
    have hl2 : h'.IsList l vs.toArray := (hl.extBut hsb1.extBut (Ne.symm hIl)).extBut hsb.extBut (Ne.symm hSl)
    refine wpAny_pure ⟨plainId_quiet PyProof.Rows.F.plain_set_update_loop _, ih (i + 1) _ (by omega) hit2 hl2 hSi fun h'' tk hk'' hsz hS'' => hR h'' tk (fun b o hbS hbI e => hk'' b o hbS hbI ((hsb.2 b hbS).trans ((hsb1.2 b hbI).trans e))) (by have h1 := hsb.1; have h2 := hsb1.1; dsimp only at h1 hsz ⊢; omega) hS''⟩
end
end
section
variable {prog : Program} {w : World} {A : Around} {E : Value → Shared → Prop} {s : Shared}
set_option maxHeartbeats 3200000 in
theorem callSetStr {l : Addr} {vs : List Value} {xs : List Str} {Q : Value → Shared → Prop} (hh : A.handled = none) (hl : s.heap.IsList l vs.toArray) (hvl : vs.length = xs.length) (hvs : ∀ (i : Nat) (x : Str), xs[i]? = some x → ∃ t, vs[i]? = some (Value.str x t)) (hb : xs.length ≤ 100)
    (h : ∀ (h' : Heap) (tk : Nat), h'.SetOf (strKind prog w) s.heap.objs.size (fun k' => (dis xs).any (· == k')) (dis xs).length → s.heap.objs.size ≤ h'.objs.size →
      (∀ b o, b < s.heap.objs.size → s.heap.get? b = some o → h'.get? b = some o) → Q (.ref s.heap.objs.size) { s with heap := h', toks := tk }) :
    wpAny (model prog w) A (call (.type "set") [.ref l]) Q E s := by
  obtain ⟨c, tl, hmro⟩ := PySem.F.called_set.mro
  have hmade := PySem.F.called_set.made
  have hsub := PySem.F.called_set.sub
  refine wpAny_call (codeAny_of_tree ?_)
  show wpAny _ _ (callAny (.type "set") _) _ _ _
  refine wpAny_pure ⟨Code.quiet_builtin _ (by decide +kernel), codeAny_builtin PySem.F.entry_type_call ?_⟩
  rw [Around.under_plain (weight_type_call_type "set" [.ref l] []) rfl]
  have h1 := PySem.F.called_set.notType
  have h2 := PySem.F.called_set.canCreate
  have hct := PySem.F.typeCall_set_1 (.ref l)
  repeat (any_goals (first | assumption | wp_step))
  refine codeAny_mono (code_set_new_1 (.ref l) (E := E) (Q₁ := fun obj s₁ => ∃ led : Bool, obj = .ref s.heap.objs.size ∧ s₁ = { s with heap := s.heap.push { cls := .type "set", dict := none, data := .set #[] 0 (.fresh 0 0 led) } }) fun led => ⟨led, rfl, rfl⟩) fun r s₁ hr => ?_
  cases r with
  | error e => exact hr
  | ok fl =>
    cases fl with
    | ret obj =>
      obtain ⟨led, rfl, rfl⟩ := hr
      have hS : (s.heap.push { cls := .type "set", dict := none, data := .set #[] 0 (.fresh 0 0 led) }).get? s.heap.objs.size = some { cls := .type "set", dict := none, data := .set #[] 0 (.fresh 0 0 led) } := Heap.get?_push_size _ rfl
      have hT : Shared.TypeIs { s with heap := s.heap.push { cls := .type "set", dict := none, data := .set #[] 0 (.fresh 0 0 led) } } (.ref s.heap.objs.size) "set" := ⟨_, hS, rfl⟩
      have hli := PySem.F.called_set.init.lookup
      have hbi := PySem.F.called_set.init.bind (.ref s.heap.objs.size)
      repeat (any_goals (first | assumption | wp_step))
      refine codeAny_mono (codeAny_call_builtin (R := wants (fun r s₂ => r = .none ∧ ∃ h' tk, s₂ = { s with heap := h', toks := tk } ∧ h'.SetOf (strKind prog w) s.heap.objs.size (fun k' => (dis xs).any (· == k')) (dis xs).length ∧ s.heap.objs.size ≤ h'.objs.size ∧
          (∀ b o, b < s.heap.objs.size → s.heap.get? b = some o → h'.get? b = some o)) E) PySem.F.called_set.init.plain PySem.F.entry_set_init (check_set_init_1 hT ?_)) fun r₂ s₂ hr₂ => ?_
      · obtain ⟨ol, hol, hcl, nl, hdl⟩ := hl
        obtain ⟨ocls, odict, odata, oslots⟩ := ol
        simp only at hcl hdl
        subst hcl; subst hdl
        have hol' : (s.heap.push { cls := .type "set", dict := none, data := .set #[] 0 (.fresh 0 0 led) }).get? l = some { cls := .type "list", dict := odict, data := .seq vs.toArray nl, slots := oslots } := Heap.get?_push_of_some _ hol
        have hsls := PySem.F.sub_list_set
        have hslf := PySem.F.sub_list_frozenset
        have hne : (Value.type "list" == Value.type "dict") = false := by decide
        have hl1 : (s.heap.push { cls := .type "set", dict := none, data := .set #[] 0 (.fresh 0 0 led) }).IsList l vs.toArray := ⟨_, hol', rfl, nl, rfl⟩
        unfold Builtin.«set.__init__» noKeywords Builtin.Frozenset.updateFrom
        generalize hPI : pyIter = PI
        wp_walk
        subst hPI
        refine wpAny_pyIter_list hl1 ?_
        refine wpAny_bind (wpAny_runValue ?_)
        have hlS : l < s.heap.objs.size := Heap.lt_size hol

        have hneI : (s.heap.push { cls := .type "set", dict := none, data := .set #[] 0 (.fresh 0 0 led) }).objs.size ≠ l := by
          rw [Heap.size_push]; exact Nat.ne_of_gt (Nat.lt_succ_of_lt hlS)
        refine setLoopS (S := s.heap.objs.size) (I := (s.heap.push { cls := .type "set", dict := none, data := .set #[] 0 (.fresh 0 0 led) }).objs.size) (l := l) (xs := xs) (vs := vs) (A := A.in1.in1) (show A.in1.in1.handled = none from hh) (by rw [Heap.size_push]; exact Nat.ne_of_lt (Nat.lt_succ_self _)) (Nat.ne_of_gt hlS) hneI hvl hvs hb xs.length 0 _ (by omega) ?hit ?hli ?hS0 ?hR
        case hit => exact ⟨_, Heap.get?_push_size _ rfl, rfl, rfl⟩
        case hli => exact hl1.push _
        case hS0 =>
          have hget : ((s.heap.push { cls := .type "set", dict := none, data := .set #[] 0 (.fresh 0 0 led) }).push { cls := .type "list_iterator", data := .fields #[.ref l, .int 0 0] }).get? s.heap.objs.size
              = some { cls := .type "set", dict := none, data := .set #[] 0 (.fresh 0 0 led) } := Heap.get?_push_of_some _ hS
          exact PyProof.Rows.SetOf_congr ((PyProof.Rows.setObjOf_fresh (knd := strKind prog w) led).setOf hget (by unfold scanBound; omega)) (fun _ => rfl) rfl
        case hR =>
          intro h' tk' hk hsz hS'
          show wpAny _ _ _ _ _ _
          refine wpAny_pure ?_
          show wpAny _ _ (ret Value.none) _ _ _
          refine wpAny_pure ⟨rfl, h', tk', rfl, hS', ?_, fun b o hb e => ?_⟩
          · simp only [Heap.size_push] at hsz; omega
          · exact hk b o (Nat.ne_of_lt hb) (by rw [Heap.size_push]; exact Nat.ne_of_lt (Nat.lt_succ_of_lt hb)) (Heap.get?_push_of_some _ (Heap.get?_push_of_some _ e))
      · cases r₂ with
        | error e => exact hr₂
        | ok fl₂ =>
          cases fl₂ with
          | ret r =>
            obtain ⟨rfl, h', tk, rfl, hS', hz', hk'⟩ := hr₂
            repeat (any_goals (first | assumption | wp_step))
            exact h _ _ hS' hz' hk'
          | _ => exact hr₂.elim
    | _ => exact hr.elim
end
section
variable {W : Wd} {f : Fd} {ρ ρ' : List Vr} {μ : Mu} {n : Nat}
end
end Mine
end
section -- S64
open PySem PySem.W PyProof.Rows PySem.Calls PySem.Spec
set_option Elab.async false
set_option maxRecDepth 100000
set_option linter.unusedVariables false
set_option autoImplicit false
set_option pp.maxSteps 600
namespace Mine
section
variable {W : Wd} {f : Fd} {ρ ρ' : List Vr} {μ : Mu} {n : Nat}

theorem strs_of {Y : Addr → Prop} {h : Heap} : ∀ {xs : List Str} {vs : List Value}, D.IsL Y h (xs.map D.str) vs → ∀ (i : Nat) (x : Str), xs[i]? = some x → ∃ t, vs[i]? = some (Value.str x t) := fun {xs vs} il i x hx => by
  obtain ⟨v, h1, h2⟩ := il.get i (d := .str x) (by rw [List.getElem?_map, hx]; rfl)
  obtain ⟨t, rfl⟩ := D.Is.str_iff.mp h2
  exact ⟨t, h1⟩
/-- len(set(e)), e a list of texts -/
theorem Ev.lenSet {e : Expr} {ps pl p1 p2 : Pos} {xs : List Str} (V : W.Ok) (h : Ev W n f ρ e (.lst (xs.map D.str))) (hb : xs.length ≤ 100) (hset : Ev W n f ρ (.Name "set" ps) (.val (.type "set"))) (hlen : Ev W n f ρ (.Name "len" pl) (.val (.builtin "len")))
    (he1 : starEach [e] f.env = (false, eval e f.env) :: starEach [] f.env := by rfl)
    (hs1 : (backTo p1 (starEach [e] f.env)).any (·.1) = false := by rfl)
    (hv1 : eval (.Call (.Name "set" ps) [e] [] p1) f.env = (do callWith p1 (← eval (.Name "set" ps) f.env) [] (backTo p1 (starEach [e] f.env)) (backToKw p1 (keywordEach [] f.env))) := by rfl)
    (he2 : starEach [.Call (.Name "set" ps) [e] [] p1] f.env = (false, eval (.Call (.Name "set" ps) [e] [] p1) f.env) :: starEach [] f.env := by rfl)
    (hs2 : (backTo p2 (starEach [.Call (.Name "set" ps) [e] [] p1] f.env)).any (·.1) = false := by rfl)
    (hv2 : eval (.Call (.Name "len" pl) [.Call (.Name "set" ps) [e] [] p1] [] p2) f.env = (do callWith p2 (← eval (.Name "len" pl) f.env) [] (backTo p2 (starEach [.Call (.Name "set" ps) [e] [] p1] f.env)) (backToKw p2 (keywordEach [] f.env))) := by rfl) :
    Ev W n f ρ (.Call (.Name "len" pl) [.Call (.Name "set" ps) [e] [] p1] [] p2) (.int (dis xs).length) := by
  intro A r s μ I F
  rw [hv2]
  refine wpAny_bind (hlen.use r I F fun v s1 k1 I1 F1 i1 => ?_)
  obtain rfl := D.Is.val_iff.mp i1
  refine callWith_of (P := Inv W) (by rw [hs2]; rfl) Kept.builtin (evalArgs_of hs2 ?_)
  refine wpAny_items_cons (he := he2) (evCall hset (EvL.cons h EvL.nil he1) Kept.type r I1 F1 (fun s2 vs k2 I2 F2 il => ?_) hs1 hv1)
  simp only [D.IsL, D.Is] at il
  obtain ⟨v, r', rfl, ⟨l, ws, rfl, av, hl, jl⟩, rfl⟩ := il
  have hlen' := jl.length
  rw [List.length_map] at hlen'
  refine callSetStr r.hd hl hlen' (strs_of jl) hb fun h' tk hS hz hk => wpAny_items_nil ?_
  have kq : Kq No s2.heap h' := .all (fun b o e => hk b o (Heap.lt_size e) e) hz
  have k3 : Kp No s2 { s2 with heap := h', toks := tk } := kq.kp fun _ _ z => z
  have I3 : Inv W h' := I2.step V kq fun _ z => z.elim
  refine ⟨I3, ?_⟩
  obtain ⟨o, es, ep, t, ho, hex, hd, hel, hmem, hbb, hf, hsz⟩ := hS
  have hb' : es.size < 4096 := hbb
  refine call_len_set ho hex hd hf (by omega) ?_
  rw [hsz]
  exact ⟨((k1.trans0 k2).trans0 k3).trans0 (Kp.toks _ _), I3, D.Is.int⟩
end
end Mine
end
section -- S65
open PySem PySem.W PyProof.Rows PySem.Calls PySem.Spec
set_option Elab.async false
set_option maxRecDepth 100000
set_option linter.unusedVariables false
set_option autoImplicit false
set_option pp.maxSteps 600
namespace Mine
section
variable {W : Wd} {f : Fd} {ρ ρ' : List Vr} {μ : Mu} {n : Nat}

/-- _law_told(chooser(None, parents)) -/
theorem Ev.toldGen {fe e1 e2 : Expr} {pl pos pos2 : Pos} {d2 : D} {α : Type} {mk : α → D} {out : α → List Value} {ok : α → Prop} {res : List Tag} {m : Nat} (V : W.Ok) (hn : n = m + 12)
    (hf : ∀ A, Rm n A → ∀ s μ, Inv W s.heap → Fm W f ρ μ s.heap → wpAny W.M A (eval fe f.env) (fun v s' => Kp No s s' ∧ Inv W s'.heap ∧ SelG W (Yo f μ) s'.heap v mk out ok) Fz s)
    (h1 : Ev W n f ρ e1 D.none) (h2 : Ev W n f ρ e2 d2) (hd2 : ∀ Y h v, D.Is Y h d2 v → ∃ a : α, ok a ∧ (mk a).Is Y h v ∧ D.IsL Y h (res.map thing) (out a)) (hres : res.length ≤ 1000)
    (htold : Ev W n f ρ (.Name "_law_told" pl) (.val (.ref 190)))
    (hs : (backTo pos (starEach [e1, e2] f.env)).any (·.1) = false := by rfl) (he1 : starEach [e1, e2] f.env = (false, eval e1 f.env) :: starEach [e2] f.env := by rfl) (he2 : starEach [e2] f.env = (false, eval e2 f.env) :: starEach [] f.env := by rfl)
    (hv : eval (.Call fe [e1, e2] [] pos) f.env = (do callWith pos (← eval fe f.env) [] (backTo pos (starEach [e1, e2] f.env)) (backToKw pos (keywordEach [] f.env))) := by rfl)
    (hs2 : (backTo pos2 (starEach [.Call fe [e1, e2] [] pos] f.env)).any (·.1) = false := by rfl) (he3 : starEach [.Call fe [e1, e2] [] pos] f.env = (false, eval (.Call fe [e1, e2] [] pos) f.env) :: starEach [] f.env := by rfl)
    (hv2 : eval (.Call (.Name "_law_told" pl) [.Call fe [e1, e2] [] pos] [] pos2) f.env = (do callWith pos2 (← eval (.Name "_law_told" pl) f.env) [] (backTo pos2 (starEach [.Call fe [e1, e2] [] pos] f.env)) (backToKw pos2 (keywordEach [] f.env))) := by rfl) :
    Ev W n f ρ (.Call (.Name "_law_told" pl) [.Call fe [e1, e2] [] pos] [] pos2) (.lst (res.map Tag.told)) := by
  intro A r s μ I F
  rw [hv2]
  refine wpAny_bind (htold.use r I F fun v s1 k1 I1 F1 i1 => ?_)
  obtain rfl := D.Is.val_iff.mp i1
  refine callWith_of (P := Inv W) (by rw [hs2]; rfl) (Kept.ref (by kernel_rfl)) (evalArgs_of hs2 ?_)
  refine wpAny_items_cons (he := he3) (wpAny_mono (evGen (μ := μ) V hf h1 h2 hd2 r I1 F1 hs he1 he2 hv) (fun gv s2 p => ?_) fun _ _ z => z)
  obtain ⟨a, g, L, B0, vs, rfl, R, hg, hB0, k2, I2, il⟩ := p
  refine wpAny_items_nil ⟨I2, ?_⟩
  subst hn
  have hgs : s.gens.size ≤ g := Nat.le_trans (gens_le k1) hg
  refine wpAny_mono (c_toldG (g0 := s.gens.size) V (r.le (by first | decide | omega)) I2 (F1.step I1 k2).yk R hgs (Nat.le_trans I1.size hB0) il hres) (fun v s3 p => ?_) fun _ _ z => z
  obtain ⟨kx, I3, i3⟩ := p
  have k12 := k1.trans0 k2
  have kx3 : Kx No s.gens.size s s3 := (k12.kx _).trans kx fun b z => .inr (Nat.le_trans k1.size (Nat.le_trans hB0 z))
  exact ⟨kx3.kp, I3, i3⟩
section
variable {A : Around} {s : Shared}
theorem hfA {i : Nat} {arg : Expr} {pf pos : Pos} {m : Nat} (hn : n = m + 12) (hi : i < 5) (V : W.Ok) (hg : Ev W n f ρ (.Name "_prepare_tag" pf) (.val (.ref 28))) (ha : Ev W n f ρ arg (.str (S "{*}" ++ let1 i)))
    (he : starEach [arg] f.env = (false, eval arg f.env) :: starEach [] f.env := by rfl) (hs : (backTo pos (starEach [arg] f.env)).any (·.1) = false := by rfl)
    (hv : eval (.Call (.Name "_prepare_tag" pf) [arg] [] pos) f.env = (do callWith pos (← eval (.Name "_prepare_tag" pf) f.env) [] (backTo pos (starEach [arg] f.env)) (backToKw pos (keywordEach [] f.env))) := by rfl) :
    ∀ A, Rm n A → ∀ s μ, Inv W s.heap → Fm W f ρ μ s.heap → wpAny W.M A (eval (.Call (.Name "_prepare_tag" pf) [arg] [] pos) f.env) (fun v s' => Kp No s s' ∧ Inv W s'.heap ∧ SelG W (Yo f μ) s'.heap v (α := List Tag × List Value) (fun q => .lst (exs q.1 q.2)) (fun q => (selO (selA i) q.1 q.2).flatten) fun q => q.2.length = q.1.length ∧ ∀ x, .str x ∈ q.1 → x.length ≤ 1000) Fz s := by
  intro A r s μ I F
  subst hn
  refine evCall hg (EvL.cons ha EvL.nil he) (Kept.ref (by kernel_rfl)) r I F (fun s2 vs k2 I2 F2 il => ?_) hs hv
  exact wpAny_mono (c_prepA hi V (r.le (by first | decide | omega)) I2 F2.yk il) (fun v s3 p => ⟨k2.trans0 p.1, p.2.1, p.2.2.toG⟩) fun _ _ z => z
theorem hfB {i : Nat} {arg : Expr} {pf pos : Pos} {m : Nat} (hn : n = m + 12) (hi : i < 5) (V : W.Ok) (hg : Ev W n f ρ (.Name "_prepare_tag" pf) (.val (.ref 28))) (ha : Ev W n f ρ arg (.str (tB i)))
    (he : starEach [arg] f.env = (false, eval arg f.env) :: starEach [] f.env := by rfl) (hs : (backTo pos (starEach [arg] f.env)).any (·.1) = false := by rfl)
    (hv : eval (.Call (.Name "_prepare_tag" pf) [arg] [] pos) f.env = (do callWith pos (← eval (.Name "_prepare_tag" pf) f.env) [] (backTo pos (starEach [arg] f.env)) (backToKw pos (keywordEach [] f.env))) := by rfl) :
    ∀ A, Rm n A → ∀ s μ, Inv W s.heap → Fm W f ρ μ s.heap → wpAny W.M A (eval (.Call (.Name "_prepare_tag" pf) [arg] [] pos) f.env) (fun v s' => Kp No s s' ∧ Inv W s'.heap ∧ SelG W (Yo f μ) s'.heap v (α := List Tag × List Value) (fun q => .lst (exs q.1 q.2)) (fun q => (selO (selB i) q.1 q.2).flatten) fun q => q.2.length = q.1.length ∧ ∀ x, .str x ∈ q.1 → x.length ≤ 1000) Fz s := by
  intro A r s μ I F
  subst hn
  refine evCall hg (EvL.cons ha EvL.nil he) (Kept.ref (by kernel_rfl)) r I F (fun s2 vs k2 I2 F2 il => ?_) hs hv
  exact wpAny_mono (c_prepB hi V (r.le (by first | decide | omega)) I2 F2.yk il) (fun v s3 p => ⟨k2.trans0 p.1, p.2.1, p.2.2.toG⟩) fun _ _ z => z
theorem hfC {x tgt : Str} {b : Bool} {a1 a2 : Expr} {pf pos : Pos} {m : Nat} (hn : n = m + 12) (hlen : x.length ≤ 1000) (hw : wild x = false) (hc : (cutS x none (some 2) == S "{}") = b) (ht : (if b = true then cutS x (some 2) none else x) = tgt) (V : W.Ok) (hg : Ev W n f ρ (.Name "prepare_child" pf) (.val (.ref 35))) (ha : Ev W n f ρ a1 D.none) (ha2 : Ev W n f ρ a2 (.tup [.str (S ""), .str x]))
    (he : starEach [a1, a2] f.env = (false, eval a1 f.env) :: starEach [a2] f.env := by rfl) (he2 : starEach [a2] f.env = (false, eval a2 f.env) :: starEach [] f.env := by rfl) (hs : (backTo pos (starEach [a1, a2] f.env)).any (·.1) = false := by rfl)
    (hv : eval (.Call (.Name "prepare_child" pf) [a1, a2] [] pos) f.env = (do callWith pos (← eval (.Name "prepare_child" pf) f.env) [] (backTo pos (starEach [a1, a2] f.env)) (backToKw pos (keywordEach [] f.env))) := by rfl) :
    ∀ A, Rm n A → ∀ s μ, Inv W s.heap → Fm W f ρ μ s.heap → wpAny W.M A (eval (.Call (.Name "prepare_child" pf) [a1, a2] [] pos) f.env) (fun v s' => Kp No s s' ∧ Inv W s'.heap ∧ SelG W (Yo f μ) s'.heap v pvD (pvO (selC tgt)) fun pv => ∀ q ∈ pv, q.2.length = q.1.length) Fz s := by
  intro A r s μ I F
  subst hn
  refine evCall hg (EvL.cons ha (EvL.cons ha2 EvL.nil he2) he) (Kept.ref (by kernel_rfl)) r I F (fun s2 vs k2 I2 F2 il => ?_) hs hv
  exact wpAny_mono (c_child hlen hw hc ht V (r.le (by first | decide | omega)) I2 F2.yk il) (fun v s3 p => ⟨k2.trans0 p.1, p.2⟩) fun _ _ z => z
end
end
end Mine
end
section -- S66
open PySem PySem.W PyProof.Rows PySem.Calls PySem.Spec
set_option Elab.async false
set_option maxRecDepth 100000
set_option linter.unusedVariables false
set_option autoImplicit false
set_option pp.maxSteps 600
namespace Mine
section
variable {W : Wd} {f : Fd} {ρ ρ' : List Vr} {μ : Mu} {n : Nat}

mutual
theorem eqv_refl : ∀ d : D, PyData.eqv (dP d) (dP d) = true
  | .val u => by cases u <;> simp [dP, PyData.eqv]
  | .int i => by simp [dP, PyData.eqv]
  | .str x => by simp [dP, PyData.eqv]
  | .tup l => by simp only [dP, PyData.eqv]; exact eqvs_refl l
  | .lst l => by simp only [dP, PyData.eqv]; exact eqvs_refl l
  | .qn _ => by simp [dP, PyData.eqv]
  | .thing _ => by simp [dP, PyData.eqv]
  | .ex _ _ => by simp [dP, PyData.eqv]
  | .slc _ _ => by simp [dP, PyData.eqv]
theorem eqvs_refl : ∀ l : List D, PyData.eqvAll (dPs l) (dPs l) = true
  | [] => by simp [dPs, PyData.eqvAll]
  | d :: l => by simp only [dPs, PyData.eqvAll, eqv_refl d, eqvs_refl l, Bool.and_self]
end
/-- two equal data: == holds, != does not -/
theorem F2.eqSame {d : D} (h : okD 8 d = true) : F2 W n (compareOp .Eq) d d (D.bool true) := by
  have := F2.eqD (W := W) (n := n) h h
  unfold eqvD at this
  rw [eqv_refl] at this; exact this
theorem F2.neSame {d : D} (h : okD 8 d = true) : F2 W n (compareOp .NotEq) d d (D.bool false) := by
  have := F2.neD (W := W) (n := n) h h
  unfold eqvD at this
  rw [eqv_refl] at this; exact this
theorem lsl_drop {α : Type} (l : List α) (i : Nat) : lsl l (some (i : Int)) none = l.drop i := by
  unfold lsl
  have h : clipAt l.length (i : Int) = min i l.length := by unfold clipAt; rw [if_neg (by omega)]; omega
  simp only [Option.elim, h]
  rw [List.take_of_length_le (by rw [List.length_drop]; omega)]
  rcases Nat.le_total i l.length with h | h
  · rw [Nat.min_eq_left h]
  · rw [Nat.min_eq_right h, List.drop_length, List.drop_of_length_le h]
theorem lsl_init {α : Type} (l : List α) (x : α) : lsl (l ++ [x]) none (some (-1)) = l := by
  unfold lsl
  have h : clipAt (l ++ [x]).length (-1 : Int) = l.length := by unfold clipAt; rw [if_pos (by decide)]; simp; omega
  simp only [Option.elim, List.drop_zero, h, Nat.sub_zero]
  rw [List.take_left]
theorem Ex.toD {st : Stmt} {i : Nat} {d d' : D} (h : Ex W n f ρ st (ρ.set i (.val d))) (e : d = d') : Ex W n f ρ st (ρ.set i (.val d')) := e ▸ h
noncomputable def rsOf (bg : Int) (st en : List Int) : Rs := (List.range 5).map fun k => (bg + st.getD k 0 + 1, bg + en.getD k 0)
/-- what is known of the numbers that the law draws -/
structure Good (bg : Int) (st en wy : List Int) : Prop where
  lst : st.length = 5
  len : en.length = 5
  lwy : wy.length = 5
  bg0 : 0 ≤ bg
  bg1 : bg < 1000
  st0 : ∀ k, k < 5 → 0 ≤ st.getD k 0
  st1 : ∀ k, k < 5 → st.getD k 0 ≤ 5
  en0 : ∀ k, k < 5 → st.getD k 0 < en.getD k 0
  en1 : ∀ k, k < 5 → en.getD k 0 ≤ st.getD k 0 + 3
  wy0 : ∀ k, k < 5 → 0 ≤ wy.getD k 0
  wy1 : ∀ k, k < 5 → wy.getD k 0 < 60000
noncomputable def bgOf (cs : List Int) : Int := (cs.getD 5 0).fmod 1000
noncomputable def stOf (cs : List Int) : List Int := (cs.take 5).map fun c => c.fmod 6
noncomputable def enOf (cs : List Int) : List Int := (cs.take 5).map fun c => c.fmod 6 + 1 + (c.fdiv 6).fmod 3
noncomputable def wyOf (cs : List Int) : List Int := (cs.take 5).map fun c => c.fdiv 18
theorem cells_ok (ns : List Int) : (cellsOf ns).length = 6 ∧ ∀ c ∈ cellsOf ns, 0 ≤ c ∧ c < 1000000 := by
  unfold cellsOf
  refine ⟨by rw [List.length_map, cellsF_len]; rfl, fun c hc => ?_⟩
  obtain ⟨b, _, rfl⟩ := List.mem_map.mp hc
  rw [Int.fmod_eq_emod_of_nonneg _ (by decide)]
  omega
theorem good_of {cs : List Int} (hl : cs.length = 6) (hc : ∀ c ∈ cs, 0 ≤ c ∧ c < 1000000) : Good (bgOf cs) (stOf cs) (enOf cs) (wyOf cs) := by
  have get : ∀ (g : Int → Int) (k : Nat), k < 5 → ∃ c, ((cs.take 5).map g).getD k 0 = g c ∧ cs.getD k 0 = c ∧ 0 ≤ c ∧ c < 1000000 := fun g k hk => by
    have h6 : k < cs.length := by omega
    refine ⟨cs[k], ?_, ?_, hc _ (List.getElem_mem h6)⟩
    · rw [List.getD_eq_getElem?_getD, List.getElem?_map, List.getElem?_take_of_lt hk, List.getElem?_eq_getElem h6]; rfl
    · rw [List.getD_eq_getElem?_getD, List.getElem?_eq_getElem h6]; rfl
  have e1 : ∀ (a : Int), a.fmod 6 = a % 6 := fun a => Int.fmod_eq_emod_of_nonneg _ (by decide)
  have e2 : ∀ (a : Int), a.fmod 3 = a % 3 := fun a => Int.fmod_eq_emod_of_nonneg _ (by decide)
  have e3 : ∀ (a : Int), a.fdiv 6 = a / 6 := fun a => Int.fdiv_eq_ediv_of_nonneg _ (by decide)
  have e4 : ∀ (a : Int), a.fdiv 18 = a / 18 := fun a => Int.fdiv_eq_ediv_of_nonneg _ (by decide)
  have e5 : ∀ (a : Int), a.fmod 1000 = a % 1000 := fun a => Int.fmod_eq_emod_of_nonneg _ (by decide)
  refine ⟨by simp [stOf, hl], by simp [enOf, hl], by simp [wyOf, hl], by unfold bgOf; rw [e5]; omega, by unfold bgOf; rw [e5]; omega, fun k hk => ?_, fun k hk => ?_, fun k hk => ?_, fun k hk => ?_, fun k hk => ?_, fun k hk => ?_⟩
  all_goals
    (try obtain ⟨c, h1, hc1, h2, h3⟩ := get (fun c => c.fmod 6) k hk)
    (try obtain ⟨c', h1', hc1', h2', h3'⟩ := get (fun c => c.fmod 6 + 1 + (c.fdiv 6).fmod 3) k hk)
    (try obtain ⟨c'', h1'', hc1'', h2'', h3''⟩ := get (fun c => c.fdiv 18) k hk)
    rw [hc1] at hc1' hc1''
    subst hc1' hc1''
    (try unfold stOf)
    (try unfold enOf)
    (try unfold wyOf)
    (try rw [h1'])
    (try rw [h1])
    (try rw [h1''])
    simp only [e1, e2, e3, e4]
    omega
end
end Mine
end
section -- S12b
open PySem PySem.W PyProof.Rows PySem.Calls PySem.Spec
set_option Elab.async false
set_option maxRecDepth 100000
set_option linter.unusedVariables false
set_option autoImplicit false
set_option pp.maxSteps 600
namespace Mine
section
variable {W : Wd} {f : Fd} {ρ ρ' : List Vr} {μ : Mu} {n : Nat}

theorem join_cps : ∀ l : List Str, (Str.join (S "") l).cps.toList = l.flatMap fun x => x.cps.toList
  | [] => rfl
  | [x] => by simp [Str.join]
  | x :: y :: r => by
    show (x ++ S "" ++ Str.join (S "") (y :: r)).cps.toList = _
    rw [List.flatMap_cons, ← join_cps (y :: r)]
    show ((x.cps ++ (S "").cps) ++ (Str.join (S "") (y :: r)).cps).toList = _
    rw [Array.toList_append, Array.toList_append, show (S "").cps.toList = [] by decide, List.append_nil]
theorem tjoin_cps (l : List Str) : (Txt.join (S "") l).cps.toList = l.flatMap fun x => x.cps.toList := by
  rw [show Txt.join (S "") l = Str.join (S "") l from PySem.StrLaws.glued_eq_join _ _]; exact join_cps l
theorem str_ext {x y : Str} (h : x.cps.toList = y.cps.toList) : x = y := by
  obtain ⟨a⟩ := x; obtain ⟨b⟩ := y
  exact congrArg Str.mk (Array.toList_inj.mp h)
theorem str_app (x y : Str) : (x ++ y).cps.toList = x.cps.toList ++ y.cps.toList := by
  rw [Str.cps_append, Array.toList_append]
theorem str_len (x : Str) : x.length = x.cps.toList.length := (Array.length_toList (xs := x.cps)).symm
/-- figures -/
noncomputable def isDg (c : Nat) : Bool := decide (48 ≤ c) && decide (c ≤ 57)
theorem num_dg {k : Int} (h0 : 0 ≤ k) : ∀ c ∈ (num k).cps.toList, isDg c = true := by
  obtain ⟨m, rfl⟩ := Int.eq_ofNat_of_zero_le h0
  intro c hc
  have hc' : c ∈ (Nat.toDigits 10 m).map Char.toNat := by rw [← KIN.signs_num]; exact hc
  obtain ⟨ch, hch, e⟩ := List.mem_map.mp hc'
  have r := PyProof.Rows.digit_range (Nat.isDigit_of_mem_toDigits (by decide) (by decide) hch)
  unfold isDg
  rw [← e, decide_eq_true r.1, decide_eq_true r.2]; rfl
theorem num_ne {k : Int} (h0 : 0 ≤ k) : (num k).cps.toList ≠ [] := by
  obtain ⟨m, rfl⟩ := Int.eq_ofNat_of_zero_le h0
  have e : (num ((m : Nat) : Int)).cps.toList = (Nat.toDigits 10 m).map Char.toNat := KIN.signs_num m
  rw [e]
  intro e
  have h := PySem.toDigits_len_ge 10 m
  rw [List.map_eq_nil_iff.mp e] at h
  exact absurd h (by decide)
theorem num_len {k : Int} (h0 : 0 ≤ k) (h1 : k < 10000000000) : (num k).cps.toList.length ≤ 10 := by
  rw [← str_len]; exact KT.len_num h0 h1
/-- an underscore behind each figure -/
noncomputable def und1 (x : Str) : Str := if occ x (S "0123456789") then x ++ S "_" else x
noncomputable def und (t : Str) : Str := Txt.join (S "") (t.cps.toList.map fun c => und1 ⟨#[c]⟩)
noncomputable def ulL (l : List Nat) : List Nat := l.flatMap fun c => if isDg c = true then [c, 95] else [c]
theorem fig_mem (c : Nat) : decide (c ∈ [48, 49, 50, 51, 52, 53, 54, 55, 56, 57]) = isDg c := by
  by_cases h : c < 58
  · have : ∀ i : Fin 58, decide (i.val ∈ [48, 49, 50, 51, 52, 53, 54, 55, 56, 57]) = isDg i.val := by decide +kernel
    exact this ⟨c, h⟩
  · have h1 : isDg c = false := by
      unfold isDg
      rw [decide_eq_false (show ¬ c ≤ 57 by omega), Bool.and_false]
    have h2 : ∀ x ∈ [48, 49, 50, 51, 52, 53, 54, 55, 56, 57], x < 58 := by decide
    rw [h1, decide_eq_false fun m => h (h2 c m)]
theorem und1_cps (c : Nat) : (und1 ⟨#[c]⟩).cps.toList = if isDg c = true then [c, 95] else [c] := by
  unfold und1
  have e : occ ⟨#[c]⟩ (S "0123456789") = isDg c := by
    unfold occ
    rw [StrLaws.found_one, show (S "0123456789").cps.toList = [48, 49, 50, 51, 52, 53, 54, 55, 56, 57] by decide]
    exact fig_mem c
  rw [e]
  split
  · rw [str_app, show (S "_").cps.toList = [95] by decide]; rfl
  · rfl
theorem und_cps (t : Str) : (und t).cps.toList = ulL t.cps.toList := by
  unfold und ulL
  rw [tjoin_cps, List.flatMap_map]
  congr 1
  funext c
  exact und1_cps c
theorem ulL_append (a b : List Nat) : ulL (a ++ b) = ulL a ++ ulL b := by unfold ulL; rw [List.flatMap_append]
theorem ulL_len : ∀ l : List Nat, (ulL l).length ≤ 2 * l.length
  | [] => Nat.le_refl _
  | c :: l => by
    have h := ulL_len l
    show ((if isDg c = true then [c, 95] else [c]) ++ ulL l).length ≤ _
    rw [List.length_append, List.length_cons]
    split <;> simp <;> omega
theorem ulL_mem {l : List Nat} {c : Nat} (h : c ∈ ulL l) : c ∈ l ∨ c = 95 := by
  obtain ⟨a, ha, hc⟩ := List.mem_flatMap.mp h
  split at hc
  · simp only [List.mem_cons, List.not_mem_nil, or_false] at hc
    rcases hc with rfl | rfl
    · exact .inl ha
    · exact .inr rfl
  · rw [List.mem_singleton.mp hc]; exact .inl ha
theorem ulL_filter : ∀ l : List Nat, (∀ c ∈ l, c ≠ 95) → (ulL l).filter (· != 95) = l
  | [], _ => rfl
  | c :: l, h => by
    have ih := ulL_filter l fun x hx => h x (List.mem_cons_of_mem _ hx)
    have hc := h c List.mem_cons_self
    show ((if isDg c = true then [c, 95] else [c]) ++ ulL l).filter _ = _
    rw [List.filter_append, ih]
    have e : (c != 95) = true := by simpa using hc
    split <;> simp [e]
theorem len_und {t : Str} (h : t.length ≤ 100) : (und t).length ≤ 300 := by
  rw [str_len, und_cps]
  rw [str_len] at h
  have := ulL_len t.cps.toList
  omega
theorem und1_len (c : Nat) : (und1 ⟨#[c]⟩).length ≤ 2 := by
  rw [str_len, und1_cps]
  split <;> simp
theorem sum_le2 : ∀ l : List Nat, ((l.map fun c => und1 ⟨#[c]⟩).map (·.length)).sum ≤ 2 * l.length
  | [] => Nat.le_refl _
  | c :: l => by
    have h := sum_le2 l
    have h1 := und1_len c
    simp only [List.map_cons, List.sum_cons, List.length_cons] at h ⊢
    omega
theorem joinOk_und {t : Str} (h : t.length ≤ 100) : JoinOk (S "") (t.cps.toList.map fun c => und1 ⟨#[c]⟩) = true := by
  unfold JoinOk
  rw [StrLaws.joinTotal]
  have h1 := sum_le2 t.cps.toList
  rw [str_len] at h
  have e : (S "").length = 0 := by decide
  have e2 : (2 : Nat) ^ 24 = 16777216 := by decide
  rw [e, Nat.mul_zero, Nat.add_zero, Bool.not_eq_true']
  unfold PySem.Builtin.Str.tooLong PySem.sizeLine
  exact decide_eq_false (by omega)
theorem len_uni {a b : Int} (h0 : 0 ≤ a) (h1 : a ≤ b) (h2 : b < 1000000) : (uni a b).length ≤ 100 := by
  unfold uni
  split
  · exact Nat.le_trans (KT.len_num (by omega) (by omega)) (by decide)
  · refine Nat.le_trans (KT.len_app (KT.len_app (KT.len_num ?_ ?_) (show (S ",").length ≤ 1 by decide)) (KT.len_num (by omega) (by omega))) (by decide)
    · split <;> omega
    · split <;> omega
noncomputable def ctx (a b : Int) : Str := if b - a ≤ 1 then num (if b - a = 0 then a + 1 - 1 else a + 1) else num (if b - a = 0 then a + 1 - 1 else a + 1) ++ S "," ++ num ((if b - a = 0 then a + 1 - 1 else a + 1) + (b - a) - 1)
theorem len_ctx {a b : Int} (h0 : 0 ≤ a) (h1 : a ≤ b) (h2 : b < 1000000) : (ctx a b).length ≤ 100 := by
  unfold ctx
  split
  · refine Nat.le_trans (KT.len_num ?_ ?_) (by decide)
    · split <;> omega
    · split <;> omega
  · refine Nat.le_trans (KT.len_app (KT.len_app (KT.len_num ?_ ?_) (show (S ",").length ≤ 1 by decide)) (KT.len_num ?_ ?_)) (by decide)
    · split <;> omega
    · split <;> omega
    · split <;> omega
    · split <;> omega
noncomputable def wrote (a b w : Int) : Str := (if (w.fdiv 2).fmod 2 = 1 then und (if w.fmod 2 = 1 then ctx a b else uni a b) else (if w.fmod 2 = 1 then ctx a b else uni a b)) ++ S " \n"
-- partition
theorem comma_eq : S "," = ⟨#[44]⟩ := by decide
theorem under_eq : S "_" = ⟨#[95]⟩ := by decide
theorem empty_eq : S "" = ⟨#[]⟩ := by decide
theorem tpart_none {x : Str} (h : 44 ∉ x.cps.toList) : Txt.partition x (S ",") = (x, S "", S "") := by
  rw [comma_eq]
  unfold Txt.partition
  rcases StrLaws.occ_head x ⟨#[44]⟩ 1 (Nat.le_refl 1) with ⟨h0, _⟩ | ⟨i, r, h0, hi, _⟩
  · rw [h0]; rfl
  · exact absurd (List.mem_of_getElem? ((StrLaws.subAt_one x 44 i).mp hi)) h
theorem tpart_at {x : Str} {A B : List Nat} (hx : x.cps.toList = A ++ 44 :: B) (h : 44 ∉ A) : Txt.partition x (S ",") = (⟨A.toArray⟩, S ",", ⟨B.toArray⟩) := by
  have hl : x.length = A.length + 1 + B.length := by rw [str_len, hx]; simp; omega
  rw [comma_eq]
  unfold Txt.partition
  rcases StrLaws.occ_head x ⟨#[44]⟩ 1 (Nat.le_refl 1) with ⟨_, hn⟩ | ⟨i, r, h0, hi, hn⟩
  · refine absurd ((StrLaws.subAt_one x 44 A.length).mpr ?_) (hn A.length)
    rw [hx, List.getElem?_append_right (Nat.le_refl _)]
    simp
  · rw [h0]
    have hm := (StrLaws.subAt_one x 44 i).mp hi
    have hiA : i = A.length := by
      rcases Nat.lt_trichotomy i A.length with h' | h' | h'
      · rw [hx, List.getElem?_append_left h'] at hm
        exact absurd (List.mem_of_getElem? hm) h
      · exact h'
      · refine absurd ((StrLaws.subAt_one x 44 A.length).mpr ?_) (hn A.length h')
        rw [hx, List.getElem?_append_right (Nat.le_refl _)]
        simp
    subst hiA
    have e1 : Builtin.Str.strSub x 0 A.length = ⟨A.toArray⟩ := str_ext (by
      rw [StrLaws.strSub_toList, hx, List.drop_zero, Nat.sub_zero, List.take_left])
    have e2 : Builtin.Str.strSub x (A.length + (⟨#[44]⟩ : Str).length) x.length = ⟨B.toArray⟩ := str_ext (by
      rw [StrLaws.strSub_toList, hx]
      show ((A ++ 44 :: B).drop (A.length + 1)).take _ = B
      rw [show A ++ 44 :: B = (A ++ [44]) ++ B by simp, List.drop_left' (by simp)]
      refine List.take_of_length_le ?_
      rw [hl]
      show B.length ≤ A.length + 1 + B.length - (A.length + 1)
      omega)
    dsimp only
    rw [e1, e2]
-- rstrip
theorem rstrip_cps {x : Str} {l sp : List Nat} (hx : x.cps.toList = l ++ sp) (hs : ∀ c ∈ sp, Unicode.isSpace c = true) (hne : l ≠ []) (hl : ∀ c ∈ l, Unicode.isSpace c = false) : (Txt.rstrip x).cps.toList = l := by
  obtain ⟨_, h0, h1, h2⟩ := PyProof.Rows.hi_facts Unicode.isSpace x 0 (Nat.zero_le _)
  have hlen : x.length = l.length + sp.length := by rw [str_len, hx, List.length_append]
  have hpos : 0 < l.length := List.length_pos_iff.mpr hne
  have get : ∀ k, x.cps.getD k 0 = (l ++ sp).getD k 0 := fun k => by rw [← hx, PyProof.Rows.getD_list]
  unfold Txt.rstrip
  rw [PyProof.Rows.stripBy_eq]
  show (Builtin.Str.strSub x 0 (PySem.stripHi Unicode.isSpace true x 0)).cps.toList = l
  have hh : PySem.stripHi Unicode.isSpace true x 0 = l.length := by
    generalize PySem.stripHi Unicode.isSpace true x 0 = hi at h0 h1 h2
    rcases Nat.lt_trichotomy hi l.length with h' | h' | h'
    · have := h1 (l.length - 1) (by omega) (by omega)
      rw [get, List.getD_eq_getElem?_getD, List.getElem?_append_left (by omega), List.getElem?_eq_getElem (by omega), Option.getD_some, hl _ (List.getElem_mem _)] at this
      cases this
    · exact h'
    · rcases h2 with h2 | h2
      · omega
      · rw [get, List.getD_eq_getElem?_getD, List.getElem?_append_right (by omega), List.getElem?_eq_getElem (by omega), Option.getD_some, hs _ (List.getElem_mem _)] at h2
        cases h2
  rw [hh, StrLaws.strSub_toList, hx, List.drop_zero, Nat.sub_zero, List.take_left]
theorem strike_cps (x : Str) : (Txt.replace x (S "_") (S "")).cps.toList = x.cps.toList.filter (· != 95) := by
  rw [under_eq, empty_eq]; exact PyProof.Rows.replace_strikes x 95
end
end Mine
end
section -- S13
open PySem PySem.W PyProof.Rows PySem.Calls PySem.Spec
set_option Elab.async false
set_option maxRecDepth 100000
set_option linter.unusedVariables false
set_option autoImplicit false
set_option pp.maxSteps 600
namespace Mine
section
variable {W : Wd} {f : Fd} {ρ ρ' : List Vr} {μ : Mu} {n : Nat}
theorem c_ctx {a b : Int} (V : W.Ok) (h0 : 0 ≤ a) (h1 : a ≤ b) (h2 : b < 1000000) : Cl W 2 (.ref 71) [.int a, .int b] (.str (ctx a b)) := by
  refine Cl.fn (nm := [S "start", S "stop", S "beginning", S "length"]) (k := 2) V (fnAt rfl rfl) (cdAt rfl rfl rfl rfl) rfl rfl rfl rfl ?_ (by decide) (by simp) (by decide +kernel) fun X L => ?_
  · intro vs h
    rcases vs with _ | ⟨v0, _ | ⟨v1, _ | _⟩⟩ <;> simp at h
    rfl
  refine Rt.cons (Ex.assign 2 V (Ev.bin (Ev.name 0 rfl rfl) Ev.int F2.addI) rfl (.inl rfl)) ?_
  refine Rt.cons (Ex.assign 3 V (Ev.bin (Ev.name 1 rfl rfl) (Ev.name 0 rfl rfl) F2.subI) rfl (.inl rfl)) ?_
  refine Rt.cons (Ex.ife (ρ' := [.val (.int a), .val (.int b), .val (.int (if b - a = 0 then a + 1 - 1 else a + 1)), .val (.int (b - a))]) (Ts.not (Ts.ev (Ev.name 3 rfl rfl) Fb.int)) (fun hc => ?_) (fun hc => ?_)) ?_
  · have hc' : b - a = 0 := by simpa using hc
    rw [if_pos hc']
    exact Exs.cons (Ex.aug 2 V Ev.int rfl rfl F2.isubI (.inl rfl)) Exs.nil
  · have hc' : ¬ b - a = 0 := by simpa using hc
    rw [if_neg hc']
    exact Exs.nil
  refine Rt.ife (b := decide (b - a ≤ 1)) (Ts.cmp (Ev.name 3 rfl rfl) Ev.int F2.leI) (fun hb => ?_) (fun hb => ⟨_, Exs.nil, ?_⟩)
  · have hb' : b - a ≤ 1 := by simpa using hb
    have e : ctx a b = num (if b - a = 0 then a + 1 - 1 else a + 1) := by unfold ctx; rw [if_pos hb']
    rw [e]
    exact Rt.ret (by apply Ev.meth (id := "str.format"); (case ho => exact Ev.str); (case ha => exact (EvL.cons (Ev.name 2 rfl rfl) EvL.nil)); (case hgm => exact fun A s t pl Q h => KFm.method h); (case hc => exact Cl.format1 (by split <;> omega) (by split <;> omega)); all_goals rfl)
  · have hb' : ¬ b - a ≤ 1 := by simpa using hb
    have e : ctx a b = num (if b - a = 0 then a + 1 - 1 else a + 1) ++ S "," ++ num ((if b - a = 0 then a + 1 - 1 else a + 1) + (b - a) - 1) := by unfold ctx; rw [if_neg hb']
    rw [e]
    exact Rt.ret (by apply Ev.meth (id := "str.format"); (case ho => exact Ev.str); (case ha => exact (EvL.cons (Ev.name 2 rfl rfl) (EvL.cons (Ev.bin (Ev.bin (Ev.name 2 rfl rfl) (Ev.name 3 rfl rfl) F2.addI) Ev.int F2.subI) EvL.nil))); (case hgm => exact fun A s t pl Q h => KFm.method h); (case hc => exact Cl.format2 (by split <;> omega) (by split <;> omega) (by split <;> omega) (by split <;> omega)); all_goals rfl)

theorem c_wrote {a b w : Int} (V : W.Ok) (h0 : 0 ≤ a) (h1 : a ≤ b) (h2 : b < 1000000) (hw : 0 ≤ w) (hw2 : w < 1000000) : Cl W 4 (.ref 159) [.int a, .int b, .int w] (.str (wrote a b w)) := by
  refine Cl.fn (nm := [S "start", S "stop", S "way", S "text"]) (k := 1) V (fnAt rfl rfl) (cdAt rfl rfl rfl rfl) rfl rfl rfl rfl ?_ (by decide) (by simp) (by decide +kernel) fun X L => ?_
  · intro vs h
    rcases vs with _ | ⟨v0, _ | ⟨v1, _ | ⟨v2, _ | _⟩⟩⟩ <;> simp at h
    rfl
  refine Rt.cons (Ex.assign (d := .str (if w.fmod 2 = 1 then ctx a b else uni a b)) 3 V (Ev.ife (b := w.fmod 2 == 1) (Ts.cmp (Ev.bin (Ev.name 2 rfl rfl) Ev.int (F2.modI (by decide))) Ev.int F2.eqI) (fun hb => ?_) (fun hb => ?_)) rfl (.inl rfl)) ?_
  · rw [if_pos (by simpa using hb)]
    exact (by apply Ev.call; (case hf => exact (Ev.gname (v := .ref 71) V rfl (by kernel_rfl))); (case ha => exact (EvL.cons (Ev.name 0 rfl rfl) (EvL.cons (Ev.name 1 rfl rfl) EvL.nil))); (case hk => exact (Kept.ref (by kernel_rfl))); (case hc => exact (c_ctx V h0 h1 h2).le (by first | decide | omega)); all_goals rfl)
  · rw [if_neg (by simpa using hb)]
    exact (by apply Ev.call; (case hf => exact (Ev.gname (v := .ref 64) V rfl (by kernel_rfl))); (case ha => exact (EvL.cons (Ev.name 0 rfl rfl) (EvL.cons (Ev.name 1 rfl rfl) EvL.nil))); (case hk => exact (Kept.ref (by kernel_rfl))); (case hc => exact (c_uni V h0 h1 h2).le (by first | decide | omega)); all_goals rfl)
  have hlen : (if w.fmod 2 = 1 then ctx a b else uni a b : Str).length ≤ 100 := by
    split
    · exact len_ctx h0 h1 h2
    · exact len_uni h0 h1 h2
  unfold wrote
  generalize (if w.fmod 2 = 1 then ctx a b else uni a b : Str) = t at hlen ⊢
  refine Rt.cons (Ex.ife (b := (w.fdiv 2).fmod 2 == 1) (ρ' := [.val (.int a), .val (.int b), .val (.int w), .val (.str (if (w.fdiv 2).fmod 2 = 1 then und t else t))]) (Ts.cmp (Ev.bin (Ev.bin (Ev.name 2 rfl rfl) Ev.int (F2.divI (by decide) (PyProof.noPylong_small (by decide)))) Ev.int (F2.modI (by decide))) Ev.int F2.eqI) (fun hc => ?_) (fun hc => ?_)) ?_
  · rw [if_pos (by simpa using hc)]
    refine Exs.cons (Ex.assign 3 V ?_ rfl (.inl rfl)) Exs.nil
    apply Ev.meth (id := "str.join")
    case ho => exact Ev.str
    case ha =>
      refine EvL.cons (d := .lst ((t.cps.toList.map fun c => und1 ⟨#[c]⟩).map D.str)) ?_ EvL.nil
      refine Ev.conv (Ev.comp (caps := []) (tn := [S "sign"]) false V (p := fun _ => true) (g := fun d => match d with | .str x => .str (und1 x) | d => d) (It.str V (Ev.name 3 rfl rfl)) ?_ rfl trivial ?_ ?_) ?_
      · intro d hd
        exact .inl ⟨rfl, _, _, rfl⟩
      · intro d hd X C L
        obtain ⟨c, _, rfl⟩ := List.mem_map.mp hd
        refine ⟨[.val (.str ⟨#[c]⟩)], rfl, Asn.name V 0 rfl (.inl rfl), Tss.nil, fun _ => ?_⟩
        refine Ev.ife (b := occ ⟨#[c]⟩ (S "0123456789")) (Ts.cmp (Ev.name 0 rfl rfl) Ev.str F2.inS) (fun h => ?_) (fun h => ?_)
        · refine Ev.conv (Ev.bin (Ev.name 0 rfl rfl) Ev.str (F2.addS (by show 1 + 1 ≤ sizeLine; decide))) ?_
          show _ = D.str (und1 _)
          unfold und1; rw [if_pos h]
        · refine Ev.conv (Ev.name 0 rfl rfl) ?_
          show _ = D.str (und1 _)
          unfold und1; rw [if_neg (by simp [h])]
      · simp only [List.length_map]
        have : t.cps.toList.length = t.length := by simp [Str.length]
        rw [this]; unfold sizeLine; omega
      · show D.lst _ = D.lst (List.map D.str (t.cps.toList.map fun c => und1 ⟨#[c]⟩))
        rw [List.filter_eq_self.mpr (fun _ _ => rfl), List.map_map, List.map_map]
        rfl
    case hgm => exact fun A s t pl Q h => GM.join h
    case hc => exact Cl.join (joinOk_und hlen)
    all_goals rfl
  · rw [if_neg (by simpa using hc)]
    exact Exs.nil
  refine Rt.ret (Ev.bin (Ev.name 3 rfl rfl) Ev.str (F2.addS ?_))
  have : (S " \n").length = 2 := by decide
  rw [this]
  unfold sizeLine
  split
  · have := len_und hlen; omega
  · omega

end
end Mine
end
section -- S68
open PySem PySem.W PyProof.Rows PySem.Calls PySem.Spec
set_option Elab.async false
set_option maxRecDepth 100000
set_option linter.unusedVariables false
set_option autoImplicit false
set_option pp.maxSteps 600
namespace Mine
section
variable {W : Wd} {f : Fd} {ρ ρ' : List Vr} {μ : Mu} {n : Nat}

theorem Ex.toB {st : Stmt} {i : Nat} {B B' : Bx} (h : Ex W n f ρ st (ρ.set i (.box B))) (e : B = B') : Ex W n f ρ st (ρ.set i (.box B')) := e ▸ h
noncomputable def dueL (st en : List Int) (k : Nat) : List Nat := (List.range 5).filter fun i => decide (en.getD i 0 ≤ st.getD k 0)
noncomputable def futL (st en : List Int) (k : Nat) : List Nat := (List.range 5).filter fun j => decide (en.getD k 0 ≤ st.getD j 0)
noncomputable def pastS (st en : List Int) (k : Nat) : Str := Txt.join (S "") ((dueL st en k).map let1)
noncomputable def futS (st en : List Int) (k : Nat) : Str := Txt.join (S "") ((futL st en k).map let1)
/-- what is known of the tags of the things -/
structure TagF (st en : List Int) (ts : List Tag) : Prop where
  hlen : ∀ x, .str x ∈ ts → x.length ≤ 1000
  fa : ∀ k, k < 5 → ts.filter (selA k) = ((dueL st en k).map fun i => .str (qt (i, k))) ++ [.qn (let1 k)]
  fb : ∀ k, k < 5 → ts.filter (selB k) = (futL st en k).map fun j => .str (qt (k, j))
  fc : ∀ k, k < 5 → ts.filter (selC (let1 k)) = [.qn (let1 k)]
  fd : ∀ i k, i < 5 → k < 5 → ts.filter (selC (qt (i, k))) = if en.getD i 0 ≤ st.getD k 0 then [.str (qt (i, k)), .qn (qt (i, k))] else []
theorem dueL_lt {st en : List Int} {k i : Nat} (h : i ∈ dueL st en k) : i < 5 := List.mem_range.mp (List.mem_filter.mp h).1
theorem futL_lt {st en : List Int} {k i : Nat} (h : i ∈ futL st en k) : i < 5 := List.mem_range.mp (List.mem_filter.mp h).1
theorem dueL_len (st en : List Int) (k : Nat) : (dueL st en k).length ≤ 5 := List.length_filter_le _ _
theorem futL_len (st en : List Int) (k : Nat) : (futL st en k).length ≤ 5 := List.length_filter_le _ _
theorem qt_facts {i k : Nat} (hi : i < 5) (hk : k < 5) : (qt (i, k)).cps[1]? = some (118 + i) ∧ (qt (i, k)).cps[3]? = some (118 + k) ∧ wild (qt (i, k)) = false ∧ (cutS (qt (i, k)) none (some 2) == S "{}") = false ∧ (qt (i, k)).length = 4 ∧ (let1 k == qt (k, k)) = false := by
  have : ∀ i k : Fin 5, (qt (i, k)).cps[1]? = some (118 + i.val) ∧ (qt (i, k)).cps[3]? = some (118 + k.val) ∧ wild (qt (i, k)) = false ∧ (cutS (qt (i, k)) none (some 2) == S "{}") = false ∧ (qt (i, k)).length = 4 ∧ (let1 k == qt (k, k)) = false := by decide +kernel
  exact this ⟨i, hi⟩ ⟨k, hk⟩
theorem br_facts {k : Nat} (hk : k < 5) : wild (S "{}" ++ let1 k) = false ∧ (cutS (S "{}" ++ let1 k) none (some 2) == S "{}") = true ∧ cutS (S "{}" ++ let1 k) (some 2) none = let1 k ∧ (S "{}" ++ let1 k).length = 3 := by
  have : ∀ k : Fin 5, wild (S "{}" ++ let1 k) = false ∧ (cutS (S "{}" ++ let1 k) none (some 2) == S "{}") = true ∧ cutS (S "{}" ++ let1 k) (some 2) none = let1 k ∧ (S "{}" ++ let1 k).length = 3 := by decide +kernel
  exact this ⟨k, hk⟩
theorem br2_facts {k : Nat} (hk : k < 5) : (let1 k == let1 k) = true := by
  have : ∀ k : Fin 5, (let1 k == let1 k) = true := by decide +kernel
  exact this ⟨k, hk⟩
theorem let1_len (k : Nat) : (let1 k).length = 1 := rfl
theorem foldl_let1 : ∀ (l : List Nat) (a : Nat), (l.map let1).foldl (fun x y => x + y.length + (S "").length) a = a + l.length
  | [], a => rfl
  | b :: l, a => by
    rw [List.map_cons, List.foldl_cons, foldl_let1 l, let1_len]
    show a + 1 + 0 + l.length = _
    rw [List.length_cons]; omega
theorem joinOk_let {l : List Nat} (h : l.length ≤ 5) : JoinOk (S "") (l.map let1) = true := by
  unfold JoinOk
  rw [List.foldl_toArray', foldl_let1]
  · have : l.length = 0 ∨ l.length = 1 ∨ l.length = 2 ∨ l.length = 3 ∨ l.length = 4 ∨ l.length = 5 := by omega
    rcases this with h | h | h | h | h | h <;> rw [h] <;> decide
  · rfl
theorem qt_ok {i k : Nat} (hi : i < 5) (hk : k < 5) : PyData.strOk (qt (i, k)) = true := by
  have : ∀ i k : Fin 5, PyData.strOk (qt (i, k)) = true := by decide +kernel
  exact this ⟨i, hi⟩ ⟨k, hk⟩
theorem let_ok {k : Nat} (hk : k < 5) : PyData.strOk (let1 k) = true := by
  have : ∀ k : Fin 5, PyData.strOk (let1 k) = true := by decide +kernel
  exact this ⟨k, hk⟩
/-- texts of the tags are in order -/
noncomputable def Tag.ok : Tag → Prop
  | .none => True
  | .str x => PyData.strOk x = true
  | .qn x => PyData.strOk x = true
theorem okTold {m : Nat} : ∀ l : List Tag, (∀ t ∈ l, t.ok) → okDs (m + 4) (l.map Tag.told) = true
  | [], _ => rfl
  | x :: l, h => by
    simp only [List.map_cons, okDs, okTold l (fun t ht => h t (List.mem_cons_of_mem _ ht)), Bool.and_true]
    have := h x List.mem_cons_self
    cases x with
    | none => simp [Tag.told, okD, okDs]
    | str x => simp only [Tag.told, okD, okDs]; rw [show PyData.strOk x = true from this]; rfl
    | qn x => simp only [Tag.told, okD, okDs]; rw [show PyData.strOk x = true from this]; rfl
noncomputable def pasts5 (st en : List Int) : List Str := (List.range 5).map (pastS st en)
noncomputable def futs5 (st en : List Int) : List Str := (List.range 5).map (futS st en)
noncomputable def pr0 (st en : List Int) (k : Nat) : Int := (((pAt st en 8).2.2).getD k []).getD 0 0
noncomputable def pr1 (st en : List Int) (k : Nat) : Int := (((pAt st en 8).2.2).getD k []).getD 1 0
/-- the shortest page: what the law reads of its pasts and futures is what _law_pressed tells -/
structure PressF (st en : List Int) : Prop where
  lo : ∀ k, k < 5 → (shorterN (pasts5 st en) (pastS st en k) : Int) = pr0 st en k
  hi : ∀ k, k < 5 → ((dis (futs5 st en)).length : Int) - shorterN (futs5 st en) (futS st en k) = pr1 st en k + 1
  b0 : ∀ k, k < 5 → 0 ≤ pr0 st en k
  b1 : ∀ k, k < 5 → pr0 st en k ≤ pr1 st en k
  b2 : ∀ k, k < 5 → pr1 st en k ≤ 7
theorem join_let (l : List Nat) : (Txt.join (S "") (l.map let1)).cps.toList = l.map (118 + ·) := by
  rw [tjoin_cps, List.flatMap_map]
  show (l.flatMap fun a => [118 + a]) = _
  rw [List.map_eq_flatMap]
theorem join_len (l : List Nat) : (Txt.join (S "") (l.map let1)).length = l.length := by
  show (Txt.join (S "") (l.map let1)).cps.size = _
  rw [← Array.length_toList, join_let, List.length_map]
theorem join_ok {l : List Nat} (h : ∀ i ∈ l, i < 5) : PyData.strOk (Txt.join (S "") (l.map let1)) = true := by
  unfold PyData.strOk
  rw [← Array.all_toList, join_let, List.all_eq_true]
  intro x hx
  obtain ⟨i, hi, rfl⟩ := List.mem_map.mp hx
  have := h i hi
  exact decide_eq_true (by omega)
theorem past_len (st en : List Int) (k : Nat) : (pastS st en k).length ≤ 5 := by rw [pastS, join_len]; exact dueL_len st en k
theorem fut_len (st en : List Int) (k : Nat) : (futS st en k).length ≤ 5 := by rw [futS, join_len]; exact futL_len st en k
theorem past_ok (st en : List Int) (k : Nat) : PyData.strOk (pastS st en k) = true := join_ok fun i h => dueL_lt h
theorem fut_ok (st en : List Int) (k : Nat) : PyData.strOk (futS st en k) = true := join_ok fun i h => futL_lt h
theorem getStr {xs : List Str} {k : Nat} {x : Str} (h : xs[k]? = some x) : (xs.map D.str)[k]? = some (.str x) := by rw [List.getElem?_map, h]; rfl
theorem getR {α : Type} (f : Nat → α) {k : Nat} (h : k < 5) : ((List.range 5).map f)[k]? = some (f k) := by
  rw [List.getElem?_map, List.getElem?_range h]; rfl
/-- the column of range k behind i columns -/
noncomputable def colAt (st en : List Int) (k : Nat) (tl : List Nat) : Nat → Nat
  | 0 => tl.length
  | i + 1 => if en.getD (tl.getD i 0) 0 ≤ st.getD k 0 ∧ colAt st en k tl i = tl.length then i else colAt st en k tl i
noncomputable def openStep (st en : List Int) (k : Nat) (a : List Nat × List Nat) : List Nat × List Nat :=
  (a.1.take (colAt st en k a.1 a.1.length) ++ [k] ++ a.1.drop (colAt st en k a.1 a.1.length + 1), if colAt st en k a.1 a.1.length = a.1.length then a.2 ++ [k] else a.2)
noncomputable def openAt (st en : List Int) (tu : List Nat) : Nat → List Nat × List Nat
  | 0 => ([], [])
  | i + 1 => openStep st en (tu.getD i 0) (openAt st en tu i)
theorem colAt_le {st en : List Int} {k : Nat} {tl : List Nat} : ∀ i, i ≤ tl.length → colAt st en k tl i ≤ tl.length
  | 0, _ => Nat.le_refl _
  | i + 1, h => by
    rw [colAt]
    split
    · omega
    · exact colAt_le i (by omega)
theorem openAt_ok {st en : List Int} {tu : List Nat} (ht : ∀ k ∈ tu, k < 5) : ∀ i, i ≤ tu.length → (∀ k ∈ (openAt st en tu i).1, k < 5) ∧ (openAt st en tu i).1.length ≤ i ∧ (openAt st en tu i).2.length ≤ i
  | 0, _ => ⟨fun k hk => (by cases hk), Nat.le_refl _, Nat.le_refl _⟩
  | i + 1, h => by
    obtain ⟨h1, h2, h3⟩ := openAt_ok ht i (by omega)
    have hk : tu.getD i 0 < 5 := ht _ (by rw [List.getD_eq_getElem?_getD, List.getElem?_eq_getElem (by omega)]; exact List.getElem_mem _)
    have hc := colAt_le (st := st) (en := en) (k := tu.getD i 0) (tl := (openAt st en tu i).1) _ (Nat.le_refl _)
    rw [openAt, openStep]
    refine ⟨fun k hm => ?_, ?_, ?_⟩
    · rcases List.mem_append.mp hm with hm | hm
      · rcases List.mem_append.mp hm with hm | hm
        · exact h1 k (List.mem_of_mem_take hm)
        · rw [List.mem_singleton.mp hm]; exact hk
      · exact h1 k (List.mem_of_mem_drop hm)
    · simp only [List.length_append, List.length_take, List.length_drop, List.length_singleton]
      omega
    · dsimp only
      split
      · rw [List.length_append, List.length_singleton]; omega
      · omega
theorem okNats : ∀ l : List Nat, okD 8 (.lst (l.map nat)) = true := by
  have : ∀ l : List Nat, okDs 7 (l.map nat) = true := fun l => by
    induction l with
    | nil => rfl
    | cons a l ih => simp only [List.map_cons, okDs, ih, Bool.and_true]; rfl
  exact this
structure OpenF (st en : List Int) : Prop where
  tl : (turnsOf st).length = 5
  lt : ∀ k ∈ turnsOf st, k < 5
  op : (openAt st en (turnsOf st) 5).2 = (aloneAt st en (turnsOf st) 5).1
end
end Mine
end
section -- S69
open PySem PySem.W PyProof.Rows PySem.Calls PySem.Spec
set_option Elab.async false
set_option maxRecDepth 100000
set_option linter.unusedVariables false
set_option autoImplicit false
set_option pp.maxSteps 600
namespace Mine
section
variable {W : Wd} {f : Fd} {ρ ρ' : List Vr} {μ : Mu} {n : Nat}

noncomputable abbrev nmLaw : List Str := [S "script", S "cells", S "begin", S "starts", S "stops", S "ways", S "ranges", S "things", S "parents", S "pasts", S "futures", S "k", S "name", S "found", S "due", S "pressed", S "low", S "high", S "again", S "turns", S "tails", S "opened", S "column", S "place", S "tail", S "told"]
set_option maxHeartbeats 16000000 in
theorem c_law1 {ns : List Int} {cs : List Int} (V : W.Ok) (hns : ns.length ≤ 1000) (hcs : cs = cellsOf ns) (hcl : cs.length = 6) (hcb : ∀ c ∈ cs, 0 ≤ c ∧ c < 1000000) (G : Good (bgOf cs) (stOf cs) (enOf cs) (wyOf cs))
    (hread : ∀ a b w : Int, 0 ≤ a → a < b → b ≤ a + 8 → b < 2000 → 0 ≤ w → w < 60001 → Cl W 12 (.ref 173) [.str (wrote a b w), .int w] (.tup [.int (a + 1), .int b]))
    (hT : TagF (stOf cs) (enOf cs) (tagsOf (rsOf (bgOf cs) (stOf cs) (enOf cs))))
    (hempty : ∀ a w : Int, 0 ≤ a → a < 2000 → 0 ≤ w → w < 60001 → Cl W 11 (.ref 166) [.str (wrote a a w)] (.tup [.int a, if w.fmod 2 = 0 then .int 0 else D.none]))
    (hPr : PressF (stOf cs) (enOf cs)) (hO : OpenF (stOf cs) (enOf cs)) :
    Cl W 40 (.ref 210) [.lst (ns.map D.int)] (D.bool true) := by
  refine Cl.fnX (nm := nmLaw) (k := 25) V (fnAt rfl rfl) (cdAt rfl rfl rfl rfl) rfl rfl rfl rfl ?_ (by decide) (by simp) (by decide +kernel) fun X L hXL => ?_
  · intro vs h
    rcases vs with _ | ⟨v0, _ | _⟩ <;> simp at h
    rfl
  refine Rt.cons (Ex.assign (d := .lst (cs.map D.int)) 1 V ?c1 rfl (.inl rfl)) ?_
  case c1 =>
    rw [hcs]
    apply Ev.call
    case hf => exact (Ev.gname (v := .ref 154) V rfl (by kernel_rfl))
    case ha => exact (EvL.cons (Ev.name 0 rfl rfl) EvL.nil)
    case hk => exact (Kept.ref (by kernel_rfl))
    case hc => exact (c_cells V hns).le (by first | decide | omega)
    all_goals rfl
  refine Rt.cons (Ex.assign (d := .int (bgOf cs)) 2 V (Ev.bin (Ev.itemL (k := 5) (Ev.name 1 rfl rfl) Ev.int (getMap (g := D.int) (d := 0) (by omega))) Ev.int (F2.modI (by decide))) rfl (.inr ⟨rfl, rfl⟩)) ?_
  refine Rt.cons (Ex.assign (d := .lst ((stOf cs).map D.int)) 3 V ?cstarts rfl (.inr ⟨rfl, rfl⟩)) ?_
  case cstarts =>
    have e : D.lst ((stOf cs).map D.int) = .lst ((((cs.take 5).map D.int).filter fun _ => true).map fun d => match d with | .int c => .int (c.fmod 6) | d => d) := by
      rw [List.filter_eq_self.mpr (fun _ _ => rfl), List.map_map, stOf, List.map_map]; rfl
    rw [e]
    refine Ev.comp (caps := []) (tn := [S "cell"]) false V (p := fun _ => true) (g := fun d => match d with | .int c => .int (c.fmod 6) | d => d) (It.lst V (Ev.conv (Ev.sliceL V (Ev.name 1 rfl rfl) EvP.none (EvP.some Ev.int) (by rw [List.length_map, hcl]; decide)) (by rw [show (5 : Int) = ((5 : Nat) : Int) from rfl, lsl_take, List.map_take]))) ?_ rfl trivial ?_ (by rw [List.length_map, List.length_take, hcl]; decide)
    · intro d hd
      exact .inl ⟨rfl, _, _, rfl⟩
    · intro d hd X C L
      obtain ⟨c, hc, rfl⟩ := List.mem_map.mp hd
      have hb := hcb c (List.mem_of_mem_take hc)
      exact ⟨[.val (.int c)], rfl, Asn.name V 0 rfl (.inl rfl), Tss.nil, fun _ => (Ev.bin (Ev.name 0 rfl rfl) Ev.int (F2.modI (by decide)))⟩
  refine Rt.cons (Ex.assign (d := .lst ((enOf cs).map D.int)) 4 V ?cstops rfl (.inr ⟨rfl, rfl⟩)) ?_
  case cstops =>
    have e : D.lst ((enOf cs).map D.int) = .lst ((((cs.take 5).map D.int).filter fun _ => true).map fun d => match d with | .int c => .int (c.fmod 6 + 1 + (c.fdiv 6).fmod 3) | d => d) := by
      rw [List.filter_eq_self.mpr (fun _ _ => rfl), List.map_map, enOf, List.map_map]; rfl
    rw [e]
    refine Ev.comp (caps := []) (tn := [S "cell"]) false V (p := fun _ => true) (g := fun d => match d with | .int c => .int (c.fmod 6 + 1 + (c.fdiv 6).fmod 3) | d => d) (It.lst V (Ev.conv (Ev.sliceL V (Ev.name 1 rfl rfl) EvP.none (EvP.some Ev.int) (by rw [List.length_map, hcl]; decide)) (by rw [show (5 : Int) = ((5 : Nat) : Int) from rfl, lsl_take, List.map_take]))) ?_ rfl trivial ?_ (by rw [List.length_map, List.length_take, hcl]; decide)
    · intro d hd
      exact .inl ⟨rfl, _, _, rfl⟩
    · intro d hd X C L
      obtain ⟨c, hc, rfl⟩ := List.mem_map.mp hd
      have hb := hcb c (List.mem_of_mem_take hc)
      exact ⟨[.val (.int c)], rfl, Asn.name V 0 rfl (.inl rfl), Tss.nil, fun _ => (Ev.bin (Ev.bin (Ev.bin (Ev.name 0 rfl rfl) Ev.int (F2.modI (by decide))) Ev.int F2.addI) (Ev.bin (Ev.bin (Ev.name 0 rfl rfl) Ev.int (F2.divI (by decide) (PyProof.noPylong_small (by decide)))) Ev.int (F2.modI (by decide))) F2.addI)⟩
  refine Rt.cons (Ex.assign (d := .lst ((wyOf cs).map D.int)) 5 V ?cways rfl (.inr ⟨rfl, rfl⟩)) ?_
  case cways =>
    have e : D.lst ((wyOf cs).map D.int) = .lst ((((cs.take 5).map D.int).filter fun _ => true).map fun d => match d with | .int c => .int (c.fdiv 18) | d => d) := by
      rw [List.filter_eq_self.mpr (fun _ _ => rfl), List.map_map, wyOf, List.map_map]; rfl
    rw [e]
    refine Ev.comp (caps := []) (tn := [S "cell"]) false V (p := fun _ => true) (g := fun d => match d with | .int c => .int (c.fdiv 18) | d => d) (It.lst V (Ev.conv (Ev.sliceL V (Ev.name 1 rfl rfl) EvP.none (EvP.some Ev.int) (by rw [List.length_map, hcl]; decide)) (by rw [show (5 : Int) = ((5 : Nat) : Int) from rfl, lsl_take, List.map_take]))) ?_ rfl trivial ?_ (by rw [List.length_map, List.length_take, hcl]; decide)
    · intro d hd
      exact .inl ⟨rfl, _, _, rfl⟩
    · intro d hd X C L
      obtain ⟨c, hc, rfl⟩ := List.mem_map.mp hd
      have hb := hcb c (List.mem_of_mem_take hc)
      exact ⟨[.val (.int c)], rfl, Asn.name V 0 rfl (.inl rfl), Tss.nil, fun _ => (Ev.bin (Ev.name 0 rfl rfl) Ev.int (F2.divI (by decide) (PyProof.noPylong_small (by decide))))⟩
  clear hcs
  generalize bgOf cs = bg at *
  generalize stOf cs = st at *
  generalize enOf cs = en at *
  generalize wyOf cs = wy at *
  have ls := G.lst
  have le := G.len
  have lw := G.lwy
  have hS : ∀ k, k < 5 → (st.map D.int)[k]? = some (.int (st.getD k 0)) := fun k hk => getMap (by omega)
  have hE : ∀ k, k < 5 → (en.map D.int)[k]? = some (.int (en.getD k 0)) := fun k hk => getMap (by omega)
  have hW : ∀ k, k < 5 → (wy.map D.int)[k]? = some (.int (wy.getD k 0)) := fun k hk => getMap (by omega)
  have hRS : ((((rng 0 5).filter fun _ => true).map fun d => match d with | .int k => pairD (bg + st.getD k.toNat 0 + 1, bg + en.getD k.toNat 0) | d => d)) = (rsOf bg st en).map pairD := by
    rw [List.filter_eq_self.mpr (fun _ _ => rfl), rng_eq, List.map_map, rsOf, List.map_map]; rfl
  have hRS' : ((((rng 0 5).filter fun _ => true).map fun d => match d with | .int k => D.tup [.int (bg + st.getD k.toNat 0 + 1), .int (bg + en.getD k.toNat 0)] | d => d)) = (rsOf bg st en).map pairD := by
    rw [List.filter_eq_self.mpr (fun _ _ => rfl), rng_eq, List.map_map, rsOf, List.map_map]; rfl
  refine Rt.cons (Ex.toD (i := 6) (d' := .lst ((rsOf bg st en).map pairD)) ?cra (congrArg D.lst hRS)) ?_
  case cra =>
    refine exComp (iy := 6) (caps := [(S "begin", 2, .int bg), (S "starts", 3, .lst (st.map D.int)), (S "stops", 4, .lst (en.map D.int)), (S "ways", 5, .lst (wy.map D.int))]) (tn := [S "k"]) false V (p := fun _ => true) (g := fun d => match d with | .int k => pairD (bg + st.getD k.toNat 0 + 1, bg + en.getD k.toNat 0) | d => d) (It.range (k := 5) V (Ev.bname (v := .type "range") V rfl (by kernel_rfl) (by decide +kernel)) Ev.int) ?_ rfl
      ⟨⟨rfl, rfl, .inl rfl, .inl rfl, rfl⟩, ⟨rfl, rfl, .inl rfl, .inl rfl, rfl⟩, ⟨rfl, rfl, .inl rfl, .inl rfl, rfl⟩, ⟨rfl, rfl, .inl rfl, .inl rfl, rfl⟩, trivial⟩ ?_ (by rw [rng_len]; decide) (hnod := (show ([S "k", S "begin", S "starts", S "stops", S "ways"] : List Str).Nodup by decide)) (hy := rfl) (hyk := rfl)
    · intro d hd
      exact .inl ⟨rfl, _, _, rfl⟩
    · intro d hd X C L
      rw [rng_eq] at hd
      obtain ⟨k, hk, rfl⟩ := List.mem_map.mp hd
      have hk5 := List.mem_range.mp hk
      have g0 := G.st0 k hk5
      have g1 := G.st1 k hk5
      have g2 := G.en0 k hk5
      have g3 := G.en1 k hk5
      have g4 := G.bg0
      have g5 := G.bg1
      have g6 := G.wy0 k hk5
      have g7 := G.wy1 k hk5
      refine ⟨[.val (nat k)], rfl, Asn.name V 0 rfl (.inl rfl), Tss.nil, fun _ => ?_⟩
      apply Ev.call
      case hf => exact (Ev.gname (v := .ref 173) V rfl (by kernel_rfl))
      case ha =>
        refine EvL.cons (d := .str (wrote (bg + st.getD k 0) (bg + en.getD k 0) (wy.getD k 0))) ?_ (EvL.cons (Ev.itemL (Ev.name 4 rfl rfl) (Ev.name 0 rfl rfl) (hW k hk5)) EvL.nil)
        apply Ev.call
        case hf => exact (Ev.gname (v := .ref 159) V rfl (by kernel_rfl))
        case ha => exact EvL.cons (Ev.bin (Ev.name 1 rfl rfl) (Ev.itemL (Ev.name 2 rfl rfl) (Ev.name 0 rfl rfl) (hS k hk5)) F2.addI) (EvL.cons (Ev.bin (Ev.name 1 rfl rfl) (Ev.itemL (Ev.name 3 rfl rfl) (Ev.name 0 rfl rfl) (hE k hk5)) F2.addI) (EvL.cons (Ev.itemL (Ev.name 4 rfl rfl) (Ev.name 0 rfl rfl) (hW k hk5)) EvL.nil))
        case hk => exact (Kept.ref (by kernel_rfl))
        case hc => exact (c_wrote V (by omega) (by omega) (by omega) (by omega) (by omega)).le (by first | decide | omega)
        all_goals rfl
      case hk => exact (Kept.ref (by kernel_rfl))
      case hc => exact (hread (bg + st.getD k 0) (bg + en.getD k 0) (wy.getD k 0) (by omega) (by omega) (by omega) (by omega) (by omega) (by omega)).le (by first | decide | omega)
      all_goals rfl
  have hR5 : (rsOf bg st en).length = 5 := by simp [rsOf]
  have hokR : okD 8 (.lst ((rsOf bg st en).map pairD)) = true := by
    have : ∀ l : Rs, okDs 7 (l.map pairD) = true := fun l => by
      induction l with
      | nil => rfl
      | cons a l ih => simp only [List.map_cons, okDs, ih, Bool.and_true]; rfl
    exact this _
  refine Rt.ife (b := false) (Ts.cmp (d2 := .lst ((rsOf bg st en).map pairD)) (Ev.name 6 rfl rfl) ?cr (F2.neSame hokR)) (fun h => by cases h) (fun _ => ⟨_, Exs.nil, ?_⟩)
  case cr =>
    refine Ev.conv (Ev.comp (caps := [(S "begin", 2, .int bg), (S "starts", 3, .lst (st.map D.int)), (S "stops", 4, .lst (en.map D.int))]) (tn := [S "k"]) false V (p := fun _ => true) (g := fun d => match d with | .int k => D.tup [.int (bg + st.getD k.toNat 0 + 1), .int (bg + en.getD k.toNat 0)] | d => d) (It.range (k := 5) V (Ev.bname (v := .type "range") V rfl (by kernel_rfl) (by decide +kernel)) Ev.int) ?_ rfl
      ⟨⟨rfl, rfl, .inl rfl, .inl rfl, rfl⟩, ⟨rfl, rfl, .inl rfl, .inl rfl, rfl⟩, ⟨rfl, rfl, .inl rfl, .inl rfl, rfl⟩, trivial⟩ ?_ (by rw [rng_len]; decide) (hnod := (show ([S "k", S "begin", S "starts", S "stops"] : List Str).Nodup by decide))) (congrArg D.lst hRS')
    · intro d hd
      exact .inl ⟨rfl, _, _, rfl⟩
    · intro d hd X C L
      rw [rng_eq] at hd
      obtain ⟨k, hk, rfl⟩ := List.mem_map.mp hd
      have hk5 := List.mem_range.mp hk
      refine ⟨[.val (nat k)], rfl, Asn.name V 0 rfl (.inl rfl), Tss.nil, fun _ => ?_⟩
      exact Ev.tup V (EvL.cons (Ev.bin (Ev.bin (Ev.name 1 rfl rfl) (Ev.itemL (Ev.name 2 rfl rfl) (Ev.name 0 rfl rfl) (hS k hk5)) F2.addI) Ev.int F2.addI) (EvL.cons (Ev.bin (Ev.name 1 rfl rfl) (Ev.itemL (Ev.name 3 rfl rfl) (Ev.name 0 rfl rfl) (hE k hk5)) F2.addI) EvL.nil)) (by show 2 ≤ sizeLine; decide)
  generalize hts : tagsOf (rsOf bg st en) = ts at *
  have htl : ts.length ≤ 58 := by rw [← hts]; exact tags_len _
  refine Rt.cons (Ex.assign (d := .lst (ts.map thing)) 7 V ?ct rfl (.inl rfl)) ?_
  case ct =>
    apply Ev.call
    case hf => exact (Ev.gname (v := .ref 185) V rfl (by kernel_rfl))
    case ha => exact (EvL.cons (Ev.name 6 rfl rfl) EvL.nil)
    case hk => exact (Kept.ref (by kernel_rfl))
    case hc => have := c_things (rs := rsOf bg st en) V hR5; rw [hts] at this; exact this.le (by first | decide | omega)
    all_goals rfl
  refine Rt.cons (Ex.assign (d := parentsD [ts.take (ts.length / 4 + 1), [], ts.drop (ts.length / 4 + 1)]) 8 V ?cp rfl (.inl rfl)) ?_
  case cp =>
    have hd4 : ∀ {f : Fd} {ρ : List Vr} {e : Expr}, Ev W 39 f ρ e (.int (((ts.map thing).length : Int).fdiv 4 + 1)) → Ev W 39 f ρ e (.int ((ts.length / 4 + 1 : Nat) : Int)) := fun {f ρ e} h => Ev.conv h (by rw [List.length_map, Int.fdiv_eq_ediv_of_nonneg _ (by decide)]; rfl)
    have e1 : lsl (ts.map thing) none (some ((ts.length / 4 + 1 : Nat) : Int)) = (ts.take (ts.length / 4 + 1)).map thing := by rw [lsl_take, List.map_take]
    have e2 : lsl (ts.map thing) (some ((ts.length / 4 + 1 : Nat) : Int)) none = (ts.drop (ts.length / 4 + 1)).map thing := by rw [lsl_drop, List.map_drop]
    refine Ev.lst V (EvL.cons (d := .lst ((ts.take (ts.length / 4 + 1)).map thing)) (Ev.conv (Ev.sliceL V (Ev.name 7 rfl rfl) EvP.none (EvP.some (hd4 ?l1)) ?z1) (by rw [e1])) (EvL.cons (d := .lst (([] : List Tag).map thing)) (Ev.lst V EvL.nil (by decide)) (EvL.cons (d := .lst ((ts.drop (ts.length / 4 + 1)).map thing)) (Ev.conv (Ev.sliceL V (Ev.name 7 rfl rfl) (EvP.some (hd4 ?l2)) EvP.none ?z2) (by rw [e2])) EvL.nil))) (by show 3 ≤ sizeLine; decide)
    case z1 => rw [List.length_map]; exact Nat.le_trans htl (by decide)
    case z2 => rw [List.length_map]; exact Nat.le_trans htl (by decide)
    case l1 => exact (Ev.bin (Ev.bin (by apply Ev.call; (case hf => exact (Ev.bname (v := .builtin "len") V rfl (by kernel_rfl) (by decide +kernel))); (case ha => exact (EvL.cons (Ev.name 7 rfl rfl) EvL.nil)); (case hk => exact Kept.builtin); (case hc => exact Cl.lenL (by rw [List.length_map]; omega)); all_goals rfl) Ev.int (F2.divI (by decide) (PyProof.noPylong_small (by decide)))) Ev.int F2.addI)
    case l2 => exact (Ev.bin (Ev.bin (by apply Ev.call; (case hf => exact (Ev.bname (v := .builtin "len") V rfl (by kernel_rfl) (by decide +kernel))); (case ha => exact (EvL.cons (Ev.name 7 rfl rfl) EvL.nil)); (case hk => exact Kept.builtin); (case hc => exact Cl.lenL (by rw [List.length_map]; omega)); all_goals rfl) Ev.int (F2.divI (by decide) (PyProof.noPylong_small (by decide)))) Ev.int F2.addI)
  refine Rt.cons (boxNew true (ds := []) (i := 9) V EvL.nil (fun _ _ _ h _ _ => by simpa only [D.IsL] using h) (by decide) rfl rfl (by simp [vals])) ?_
  refine Rt.cons (boxNew true (ds := []) (i := 10) V EvL.nil (fun _ _ _ h _ _ => by simpa only [D.IsL] using h) (by decide) rfl rfl (by simp [vals])) ?_
  have hflat : [ts.take (ts.length / 4 + 1), [], ts.drop (ts.length / 4 + 1)].flatten = ts := by
    simp only [List.flatten_cons, List.nil_append, List.flatten_nil, List.append_nil, List.take_append_drop]
  refine Rt.cons (Ex.forIn (ds := rng 0 5) false V (fun i => [(.val (.lst (ns.map D.int))), (.val (.lst (cs.map D.int))), (.val (.int bg)), (.val (.lst (st.map D.int))), (.val (.lst (en.map D.int))), (.val (.lst (wy.map D.int))), (.val (.lst ((rsOf bg st en).map pairD))), (.val (.lst (ts.map thing))), (.val (parentsD [ts.take (ts.length / 4 + 1), [], ts.drop (ts.length / 4 + 1)])), (.box (FlatL true (((List.range (i)).map (pastS st en)).map D.str))), (.box (FlatL true (((List.range (i)).map (futS st en)).map D.str))), .un, .un, .un, .un, .un, .un, .un, .un, .un, .un, .un, .un, .un, .un, .un])
    (It.range (k := 5) V (Ev.bname (v := .type "range") V rfl (by kernel_rfl) (by decide +kernel)) Ev.int) ?_ ?_) ?_
  · intro d hd
    exact .inl ⟨rfl, _, _, rfl⟩
  · intro k d hd X'
    obtain ⟨rfl, hk⟩ := rng_get0 hd
    refine ⟨_, Asn.name V 11 rfl (.inr ⟨rfl, rfl⟩), ?_⟩
    refine Exs.cons (Ex.assign (d := .str (let1 k)) 12 V (Ev.itemS Ev.str (Ev.name 11 rfl rfl) (vwxyz_get hk)) rfl (.inr ⟨rfl, rfl⟩)) ?_
    have hfa := hT.fa k hk
    have hfb := hT.fb k hk
    have hdl := dueL_len st en k
    have hfl := futL_len st en k
    refine Exs.cons (Ex.toD (i := 13) (d' := .lst (((dueL st en k).map fun i => thing (.str (qt (i, k)))) ++ [thing (.qn (let1 k))])) (Ex.assign 13 V (Ev.listGen (m := 29) V rfl (hfA (m := 27) rfl hk V (Ev.gname (v := .ref 28) V rfl (by kernel_rfl)) (Ev.bin Ev.str (Ev.name 12 rfl rfl) (F2.addS (by show 4 ≤ sizeLine; decide)))) Ev.noneC (Ev.name 7 rfl rfl) (things_of hT.hlen) (by rw [hfa]; simp; omega) (Ev.bname (v := .type "list") V rfl (by kernel_rfl) (by decide +kernel))) rfl (.inl rfl)) (by rw [hfa]; simp [thing])) ?_
    have eX1 : ((dueL st en k).map (fun i => Tag.str (qt (i, k))) ++ [Tag.qn (let1 k)]).map thing = ((dueL st en k).map fun i => thing (.str (qt (i, k)))) ++ [thing (.qn (let1 k))] := by simp [thing]
    have eX2 : ((dueL st en k).map (fun i => Tag.str (qt (i, k))) ++ [Tag.qn (let1 k)]).map Tag.told = ((dueL st en k).map fun i => D.tup [.str (qt (i, k)), .int 0]) ++ [D.tup [.str (let1 k), .int 1]] := by simp [Tag.told]
    have okX : okD 8 (.lst (((dueL st en k).map fun i => D.tup [.str (qt (i, k)), .int 0]) ++ [D.tup [.str (let1 k), .int 1]])) = true := by
      rw [← eX2]
      refine okTold (m := 3) _ fun t ht => ?_
      rcases List.mem_append.mp ht with ht | ht
      · obtain ⟨i, hi, rfl⟩ := List.mem_map.mp ht
        exact qt_ok (dueL_lt hi) hk
      · obtain rfl := List.mem_singleton.mp ht
        exact let_ok hk
    have edue : (((rng 0 5).filter fun d => match d with | .int i => decide (en.getD i.toNat 0 ≤ st.getD k 0) | _ => false).map fun d => match d with | .int i => D.tup [.str (qt (i.toNat, k)), .int 0] | d => d) = (dueL st en k).map fun i => D.tup [.str (qt (i, k)), .int 0] := by
      rw [rng_eq, List.filter_map, List.map_map]; rfl
    refine Exs.cons (Ex.toD (i := 14) (d' := .lst ((dueL st en k).map fun i => D.tup [.str (qt (i, k)), .int 0])) ?cdue (congrArg D.lst edue)) ?_
    case cdue =>
      refine exComp (iy := 14) (caps := [(S "stops", 4, .lst (en.map D.int)), (S "starts", 3, .lst (st.map D.int)), (S "k", 11, nat k), (S "name", 12, .str (let1 k))]) (tn := [S "i"]) false V (p := fun d => match d with | .int i => decide (en.getD i.toNat 0 ≤ st.getD k 0) | _ => false) (g := fun d => match d with | .int i => .tup [.str (qt (i.toNat, k)), .int 0] | d => d) (It.range (k := 5) V (Ev.bname (v := .type "range") V rfl (by kernel_rfl) (by decide +kernel)) Ev.int) ?_ rfl
        ⟨⟨rfl, rfl, .inl rfl, .inl rfl, rfl⟩, ⟨rfl, rfl, .inl rfl, .inl rfl, rfl⟩, ⟨rfl, rfl, .inl rfl, .inl rfl, rfl⟩, ⟨rfl, rfl, .inl rfl, .inl rfl, rfl⟩, trivial⟩ ?_ (by rw [rng_len]; decide) (hnod := (show ([S "i", S "stops", S "starts", S "k", S "name"] : List Str).Nodup by decide)) (hy := rfl) (hyk := rfl)
      · intro d hd
        exact .inl ⟨rfl, _, _, rfl⟩
      · intro d hd X C L
        rw [rng_eq] at hd
        obtain ⟨i, hi, rfl⟩ := List.mem_map.mp hd
        have hi5 := List.mem_range.mp hi
        refine ⟨[.val (nat i)], rfl, Asn.name V 0 rfl (.inl rfl), Tss.one (Ts.cmp (Ev.itemL (Ev.name 1 rfl rfl) (Ev.name 0 rfl rfl) (hE i hi5)) (Ev.itemL (Ev.name 2 rfl rfl) (Ev.name 3 rfl rfl) (hS k hk)) F2.leI), fun _ => ?_⟩
        exact Ev.tup V (EvL.cons (Ev.bin (Ev.bin (Ev.bin Ev.str (Ev.itemS Ev.str (Ev.name 0 rfl rfl) (vwxyz_get hi5)) (F2.addS (by show 2 ≤ sizeLine; decide))) Ev.str (F2.addS (by show 3 ≤ sizeLine; decide))) (Ev.name 4 rfl rfl) (F2.addS (by show 4 ≤ sizeLine; decide))) (EvL.cons Ev.int EvL.nil)) (by show 2 ≤ sizeLine; decide)
    refine Exs.cons (Ex.ife (b := false) (Ts.cmp (d2 := .lst (((dueL st en k).map fun i => D.tup [.str (qt (i, k)), .int 0]) ++ [D.tup [.str (let1 k), .int 1]])) (Ev.conv ?ctold (congrArg D.lst eX2)) (Ev.bin (Ev.name 14 rfl rfl) (Ev.lst V (EvL.cons (Ev.tup V (EvL.cons (Ev.name 12 rfl rfl) (EvL.cons Ev.int EvL.nil)) (by show 2 ≤ sizeLine; decide)) EvL.nil) (by show 1 ≤ sizeLine; decide)) (F2.addL V (by rw [List.length_map]; exact Nat.le_trans (Nat.add_le_add_right hdl _) (by show 6 ≤ sizeLine; decide)))) (F2.neSame okX)) (fun h => by cases h) (fun _ => Exs.nil)) ?_
    case ctold =>
      apply Ev.call
      case hf => exact (Ev.gname (v := .ref 190) V rfl (by kernel_rfl))
      case ha => exact EvL.cons (Ev.conv (Ev.name 13 rfl rfl) (congrArg D.lst eX1.symm)) EvL.nil
      case hk => exact (Kept.ref (by kernel_rfl))
      case hc => exact (c_told V (by simp; omega)).le (by first | decide | omega)
      all_goals rfl
    have etag : (!(let1 k == let1 k) || (let1 k == qt (k, k))) = false := by rw [(br2_facts hk), (qt_facts hk hk).2.2.2.2.2]; rfl
    refine Exs.cons (Ex.ife (b := false) (Ts.conv (Ts.or (Ts.not (Ts.cmp (d2 := .qn (let1 k)) (Ev.tag (Ev.itemLast (Ev.name 13 rfl rfl) (Ev.neg Ev.int)) Handed.qn) ?cq1 (F2.eqQ (.inl rfl) V))) (fun _ => Ts.cmp (d2 := .qn (qt (k, k))) (Ev.tag (Ev.itemLast (Ev.name 13 rfl rfl) (Ev.neg Ev.int)) Handed.qn) ?cq2 (F2.eqQ (.inl rfl) V))) etag) (fun h => by cases h) (fun _ => Exs.nil)) ?_
    case cq1 =>
      apply Ev.call
      case hf => exact (Ev.gname (v := .ref 145) V rfl (by kernel_rfl))
      case ha => exact EvL.cons (Ev.name 12 rfl rfl) EvL.nil
      case hk => exact (Kept.ref (by kernel_rfl))
      case hc => exact Cl.qn1 V
      all_goals rfl
    case cq2 =>
      apply Ev.call
      case hf => exact (Ev.gname (v := .ref 145) V rfl (by kernel_rfl))
      case ha => exact EvL.cons (Ev.name 12 rfl rfl) (EvL.cons (Ev.name 12 rfl rfl) EvL.nil)
      case hk => exact (Kept.ref (by kernel_rfl))
      case hc => exact Cl.qn2 V (show 1 ≤ 1000 by decide) (show 1 ≤ 1000 by decide) (show 1 ≠ 0 by decide)
      all_goals rfl
    have epast : ((((dueL st en k).map fun i => thing (.str (qt (i, k)))).filter fun _ => true).map fun d => match d with | .thing (.str x) => D.str ⟨#[x.cps.getD 1 0]⟩ | d => d) = ((dueL st en k).map let1).map D.str := by
      rw [List.filter_eq_self.mpr (fun _ _ => rfl), List.map_map, List.map_map]
      refine List.map_congr_left fun i hi => ?_
      show D.str ⟨#[(qt (i, k)).cps.getD 1 0]⟩ = D.str (let1 i)
      rw [Array.getD_eq_getD_getElem?, (qt_facts (dueL_lt hi) hk).1]; rfl
    refine Exs.cons (Ex.toB (i := 9) (B' := FlatL true (((List.range (k + 1)).map (pastS st en)).map D.str)) (boxApp (i := 9) V rfl rfl (d := .str (pastS st en k)) ?capp rfl (by simp; omega)) ?eapp) ?_
    case eapp => rw [List.range_succ, List.map_append, List.map_append]; rfl
    case capp =>
      apply Ev.meth (id := "str.join")
      case ho => exact Ev.str
      case ha =>
        refine EvL.cons (Ev.conv (Ev.comp (caps := []) (tn := [S "thing"]) false V (p := fun _ => true) (g := fun d => match d with | .thing (.str x) => D.str ⟨#[x.cps.getD 1 0]⟩ | d => d) (It.lst V (Ev.conv (Ev.sliceL V (Ev.name 13 rfl rfl) EvP.none (EvP.some (Ev.neg Ev.int)) ?zs) (congrArg D.lst (lsl_init _ _)))) ?_ rfl trivial ?_ ?zl) (congrArg D.lst epast)) EvL.nil
        case zs => rw [List.length_append, List.length_map]; exact Nat.le_trans (Nat.add_le_add_right hdl _) (by show 6 ≤ sizeLine; decide)
        case zl => rw [List.length_map]; exact Nat.le_trans hdl (by decide)
        · intro d hd
          exact .inl ⟨rfl, _, _, rfl⟩
        · intro d hd X C L
          obtain ⟨i, hi, rfl⟩ := List.mem_map.mp hd
          have hq := (qt_facts (dueL_lt hi) hk).1
          refine ⟨[.val (thing (.str (qt (i, k))))], rfl, Asn.name V 0 rfl (.inl rfl), Tss.nil, fun _ => Ev.conv (Ev.itemS (k := 1) (Ev.tag (Ev.name 0 rfl rfl) Handed.str) Ev.int hq) ?_⟩
          show D.str ⟨#[118 + i]⟩ = D.str ⟨#[(qt (i, k)).cps.getD 1 0]⟩
          rw [Array.getD_eq_getD_getElem?, hq]; rfl
      case hgm => exact fun A s t pl Q h => GM.join h
      case hc => exact Cl.join (joinOk_let hdl)
      all_goals rfl
    refine Exs.cons (Ex.toD (i := 13) (d' := .lst ((futL st en k).map fun j => thing (.str (qt (k, j))))) (Ex.assign 13 V (Ev.listGen (m := 29) V rfl (hfB (m := 27) rfl hk V (Ev.gname (v := .ref 28) V rfl (by kernel_rfl)) (Ev.bin (Ev.bin Ev.str (Ev.name 12 rfl rfl) (F2.addS (by show 2 ≤ sizeLine; decide))) Ev.str (F2.addS (by show 4 ≤ sizeLine; decide)))) Ev.noneC (Ev.name 7 rfl rfl) (things_of hT.hlen) (by rw [hfb]; simp; omega) (Ev.bname (v := .type "list") V rfl (by kernel_rfl) (by decide +kernel))) rfl (.inl rfl)) (by rw [hfb]; simp [thing])) ?_
    have eY1 : ((futL st en k).map (fun j => Tag.str (qt (k, j)))).map thing = (futL st en k).map fun j => thing (.str (qt (k, j))) := by simp [thing]
    have eY2 : ((futL st en k).map (fun j => Tag.str (qt (k, j)))).map Tag.told = (futL st en k).map fun j => D.tup [.str (qt (k, j)), .int 0] := by simp [Tag.told]
    have okY : okD 8 (.lst ((futL st en k).map fun j => D.tup [.str (qt (k, j)), .int 0])) = true := by
      rw [← eY2]
      refine okTold (m := 3) _ fun t ht => ?_
      obtain ⟨j, hj, rfl⟩ := List.mem_map.mp ht
      exact qt_ok hk (futL_lt hj)
    have efut : (((rng 0 5).filter fun d => match d with | .int j => decide (en.getD k 0 ≤ st.getD j.toNat 0) | _ => false).map fun d => match d with | .int j => D.tup [.str (qt (k, j.toNat)), .int 0] | d => d) = (futL st en k).map fun j => D.tup [.str (qt (k, j)), .int 0] := by
      rw [rng_eq, List.filter_map, List.map_map]; rfl
    refine Exs.cons (Ex.ife (b := false) (Ts.cmp (d2 := .lst ((futL st en k).map fun j => D.tup [.str (qt (k, j)), .int 0])) (Ev.conv ?ctold2 (congrArg D.lst eY2)) (Ev.conv ?cfut (congrArg D.lst efut)) (F2.neSame okY)) (fun h => by cases h) (fun _ => Exs.nil)) ?_
    case ctold2 =>
      apply Ev.call
      case hf => exact (Ev.gname (v := .ref 190) V rfl (by kernel_rfl))
      case ha => exact EvL.cons (Ev.conv (Ev.name 13 rfl rfl) (congrArg D.lst eY1.symm)) EvL.nil
      case hk => exact (Kept.ref (by kernel_rfl))
      case hc => exact (c_told V (by simp; omega)).le (by first | decide | omega)
      all_goals rfl
    case cfut =>
      refine Ev.comp (caps := [(S "stops", 4, .lst (en.map D.int)), (S "k", 11, nat k), (S "starts", 3, .lst (st.map D.int)), (S "name", 12, .str (let1 k))]) (tn := [S "j"]) false V (p := fun d => match d with | .int j => decide (en.getD k 0 ≤ st.getD j.toNat 0) | _ => false) (g := fun d => match d with | .int j => D.tup [.str (qt (k, j.toNat)), .int 0] | d => d) (It.range (k := 5) V (Ev.bname (v := .type "range") V rfl (by kernel_rfl) (by decide +kernel)) Ev.int) ?_ rfl
        ⟨⟨rfl, rfl, .inl rfl, .inl rfl, rfl⟩, ⟨rfl, rfl, .inl rfl, .inl rfl, rfl⟩, ⟨rfl, rfl, .inl rfl, .inl rfl, rfl⟩, ⟨rfl, rfl, .inl rfl, .inl rfl, rfl⟩, trivial⟩ ?_ (by rw [rng_len]; decide) (hnod := (show ([S "j", S "stops", S "k", S "starts", S "name"] : List Str).Nodup by decide))
      · intro d hd
        exact .inl ⟨rfl, _, _, rfl⟩
      · intro d hd X C L
        rw [rng_eq] at hd
        obtain ⟨j, hj, rfl⟩ := List.mem_map.mp hd
        have hj5 := List.mem_range.mp hj
        refine ⟨[.val (nat j)], rfl, Asn.name V 0 rfl (.inl rfl), Tss.one (Ts.cmp (Ev.itemL (Ev.name 1 rfl rfl) (Ev.name 2 rfl rfl) (hE k hk)) (Ev.itemL (Ev.name 3 rfl rfl) (Ev.name 0 rfl rfl) (hS j hj5)) F2.leI), fun _ => ?_⟩
        exact Ev.tup V (EvL.cons (Ev.bin (Ev.bin (Ev.bin Ev.str (Ev.name 4 rfl rfl) (F2.addS (by show 2 ≤ sizeLine; decide))) Ev.str (F2.addS (by show 3 ≤ sizeLine; decide))) (Ev.itemS Ev.str (Ev.name 0 rfl rfl) (vwxyz_get hj5)) (F2.addS (by show 4 ≤ sizeLine; decide))) (EvL.cons Ev.int EvL.nil)) (by show 2 ≤ sizeLine; decide)
    have efut2 : ((((futL st en k).map fun j => thing (.str (qt (k, j)))).filter fun _ => true).map fun d => match d with | .thing (.str x) => D.str ⟨#[x.cps.getD 3 0]⟩ | d => d) = ((futL st en k).map let1).map D.str := by
      rw [List.filter_eq_self.mpr (fun _ _ => rfl), List.map_map, List.map_map]
      refine List.map_congr_left fun j hj => ?_
      show D.str ⟨#[(qt (k, j)).cps.getD 3 0]⟩ = D.str (let1 j)
      rw [Array.getD_eq_getD_getElem?, (qt_facts hk (futL_lt hj)).2.1]; rfl
    refine Exs.cons (Ex.toB (i := 10) (B' := FlatL true (((List.range (k + 1)).map (futS st en)).map D.str)) (boxApp (i := 10) V rfl rfl (d := .str (futS st en k)) ?capp2 rfl (by simp; omega)) ?eapp2) ?_
    case eapp2 => rw [List.range_succ, List.map_append, List.map_append]; rfl
    case capp2 =>
      apply Ev.meth (id := "str.join")
      case ho => exact Ev.str
      case ha =>
        refine EvL.cons (Ev.conv (Ev.comp (caps := []) (tn := [S "thing"]) false V (p := fun _ => true) (g := fun d => match d with | .thing (.str x) => D.str ⟨#[x.cps.getD 3 0]⟩ | d => d) (It.lst V (Ev.name 13 rfl rfl)) ?_ rfl trivial ?_ ?zl) (congrArg D.lst efut2)) EvL.nil
        case zl => rw [List.length_map]; exact Nat.le_trans hfl (by decide)
        · intro d hd
          exact .inl ⟨rfl, _, _, rfl⟩
        · intro d hd X C L
          obtain ⟨j, hj, rfl⟩ := List.mem_map.mp hd
          have hq := (qt_facts hk (futL_lt hj)).2.1
          refine ⟨[.val (thing (.str (qt (k, j))))], rfl, Asn.name V 0 rfl (.inl rfl), Tss.nil, fun _ => Ev.conv (Ev.itemS (k := 3) (Ev.tag (Ev.name 0 rfl rfl) Handed.str) Ev.int hq) ?_⟩
          show D.str ⟨#[118 + j]⟩ = D.str ⟨#[(qt (k, j)).cps.getD 3 0]⟩
          rw [Array.getD_eq_getD_getElem?, hq]; rfl
      case hgm => exact fun A s t pl Q h => GM.join h
      case hc => exact Cl.join (joinOk_let hfl)
      all_goals rfl
    obtain ⟨b1, b2, b3, b4⟩ := br_facts hk
    have hfc := hT.fc k hk
    refine (Ex.one' (Ex.ife (b := false) (Ts.cmp (d2 := .lst [.tup [.str (let1 k), .int 1]]) (Ev.conv (Ev.toldGen (m := 27) (res := [ts.take (ts.length / 4 + 1), [], ts.drop (ts.length / 4 + 1)].flatten.filter (selC (let1 k))) V rfl (hfC (m := 27) (x := S "{}" ++ let1 k) rfl (by rw [b4]; decide) b1 b2 b3 V (Ev.gname (v := .ref 35) V rfl (by kernel_rfl)) Ev.noneC (Ev.tup V (EvL.cons Ev.str (EvL.cons (Ev.bin Ev.str (Ev.name 12 rfl rfl) (F2.addS (by show 3 ≤ sizeLine; decide))) EvL.nil)) (by show 2 ≤ sizeLine; decide))) Ev.noneC (Ev.name 8 rfl rfl) parents_of (by rw [hflat, hfc]; simp) (Ev.gname (v := .ref 190) V rfl (by kernel_rfl))) (by rw [hflat, hfc]; rfl)) (Ev.lst V (EvL.cons (Ev.tup V (EvL.cons (Ev.name 12 rfl rfl) (EvL.cons Ev.int EvL.nil)) (by show 2 ≤ sizeLine; decide)) EvL.nil) (by show 1 ≤ sizeLine; decide)) (F2.neSame ?okz)) (fun h => by cases h) (fun _ => Exs.nil))).fgt ⟨.inr rfl, .inr rfl, .inr rfl, .inr rfl, .inr rfl, .inr rfl, .inr rfl, .inr rfl, .inr rfl, .inr rfl, .inr rfl, .inl rfl, .inl rfl, .inl rfl, .inl rfl, .inl rfl, .inl rfl, .inl rfl, .inl rfl, .inl rfl, .inl rfl, .inl rfl, .inl rfl, .inl rfl, .inl rfl, .inl rfl, trivial⟩
    case okz => simp only [okD, okDs, let_ok hk, Bool.and_true]
  have hlo : ∀ b, X b → b < L := hXL
  refine Rt.freeze (i := 9) rfl rfl hXL ?_
  refine Rt.freeze (i := 10) rfl rfl hXL ?_
  refine Rt.cons (Ex.assign (d := nestD (pAt st en 8).2.2) 15 V ?cpr rfl (.inl rfl)) ?_
  case cpr =>
    apply Ev.call
    case hf => exact (Ev.gname (v := .ref 200) V rfl (by kernel_rfl))
    case ha => exact EvL.cons (Ev.name 3 rfl rfl) (EvL.cons (Ev.name 4 rfl rfl) EvL.nil)
    case hk => exact (Kept.ref (by kernel_rfl))
    case hc => exact (c_pressed V ls le).le (by first | decide | omega)
    all_goals rfl
  have hshape := Sh.pAt (st := st) (en := en) 8
  have hP : ∀ x ∈ (List.range 5).map (pastS st en), x.length ≤ 1000 ∧ PyData.strOk x = true := fun x hx => by
    obtain ⟨k, _, rfl⟩ := List.mem_map.mp hx
    exact ⟨Nat.le_trans (past_len st en k) (by decide), past_ok st en k⟩
  have hF : ∀ x ∈ (List.range 5).map (futS st en), x.length ≤ 1000 ∧ PyData.strOk x = true := fun x hx => by
    obtain ⟨k, _, rfl⟩ := List.mem_map.mp hx
    exact ⟨Nat.le_trans (fut_len st en k) (by decide), fut_ok st en k⟩
  refine Rt.cons (Ex.forIn (ds := rng 0 5) false V (fun i => [(.val (.lst (ns.map D.int))), (.val (.lst (cs.map D.int))), (.val (.int bg)), (.val (.lst (st.map D.int))), (.val (.lst (en.map D.int))), (.val (.lst (wy.map D.int))), (.val (.lst ((rsOf bg st en).map pairD))), (.val (.lst (ts.map thing))), (.val (parentsD [ts.take (ts.length / 4 + 1), [], ts.drop (ts.length / 4 + 1)])), (.val (.lst ((pasts5 st en).map D.str))), (.val (.lst ((futs5 st en).map D.str))), .un, .un, .un, .un, (.val (nestD (pAt st en 8).2.2)), .un, .un, .un, .un, .un, .un, .un, .un, .un, .un])
    (It.range (k := 5) V (Ev.bname (v := .type "range") V rfl (by kernel_rfl) (by decide +kernel)) Ev.int) ?_ ?_) ?_
  · intro d hd
    exact .inl ⟨rfl, _, _, rfl⟩
  · intro k d hd X'
    obtain ⟨rfl, hk⟩ := rng_get0 hd
    have p1 := hPr.lo k hk
    have p2 := hPr.hi k hk
    have p3 := hPr.b0 k hk
    have p4 := hPr.b1 k hk
    have p5 := hPr.b2 k hk
    have g4 := G.bg0
    have g5 := G.bg1
    have g6 := G.wy0 k hk
    have g7 := G.wy1 k hk
    refine ⟨_, Asn.name V 11 rfl (.inr ⟨rfl, rfl⟩), ?_⟩
    have hpast := getStr (getR (pastS st en) hk)
    have hfut := getStr (getR (futS st en) hk)
    refine Exs.cons (Ex.assign (d := .int (bg + pr0 st en k)) 16 V (Ev.bin (Ev.name 2 rfl rfl) (Ev.conv ?csh (congrArg D.int p1)) F2.addI) rfl (.inl rfl)) ?_
    case csh =>
      apply Ev.call
      case hf => exact (Ev.gname (v := .ref 195) V rfl (by kernel_rfl))
      case ha => exact EvL.cons (Ev.name 9 rfl rfl) (EvL.cons (Ev.itemL (Ev.name 9 rfl rfl) (Ev.name 11 rfl rfl) hpast) EvL.nil)
      case hk => exact (Kept.ref (by kernel_rfl))
      case hc => exact (c_shorter V (by simp) (fun x hx => (hP x hx).1) (Nat.le_trans (past_len st en k) (by decide)) (fun x hx => (hP x hx).2)).le (by first | decide | omega)
      all_goals rfl
    have ehigh : bg + ((dis (futs5 st en)).length : Int) - ((shorterN (futs5 st en) (futS st en k) : Nat) : Int) = bg + pr1 st en k + 1 := by omega
    refine Exs.cons (Ex.assign (d := .int (bg + pr1 st en k + 1)) 17 V (Ev.conv (Ev.bin (Ev.bin (Ev.name 2 rfl rfl) (Ev.lenSet (xs := futs5 st en) V (Ev.name 10 rfl rfl) (by simp [futs5]) (Ev.bname (v := .type "set") V rfl (by kernel_rfl) (by decide +kernel)) (Ev.bname (v := .builtin "len") V rfl (by kernel_rfl) (by decide +kernel))) F2.addI) ?csh2 F2.subI) (congrArg D.int ehigh)) rfl (.inl rfl)) ?_
    case csh2 =>
      apply Ev.call
      case hf => exact (Ev.gname (v := .ref 195) V rfl (by kernel_rfl))
      case ha => exact EvL.cons (Ev.name 10 rfl rfl) (EvL.cons (Ev.itemL (Ev.name 10 rfl rfl) (Ev.name 11 rfl rfl) hfut) EvL.nil)
      case hk => exact (Kept.ref (by kernel_rfl))
      case hc => exact (c_shorter V (by simp) (fun x hx => (hF x hx).1) (Nat.le_trans (fut_len st en k) (by decide)) (fun x hx => (hF x hx).2)).le (by first | decide | omega)
      all_goals rfl
    obtain ⟨hgk, hg2⟩ := hshape.get hk
    have hp1 : (((pAt st en 8).2.2).map fun l => D.lst (l.map D.int))[k]? = some (.lst ((((pAt st en 8).2.2).getD k []).map D.int)) := by
      rw [List.getElem?_map, hgk]; rfl
    have hp2 : ((((pAt st en 8).2.2).getD k []).map D.int)[0]? = some (.int (pr0 st en k)) := getMap (by omega)
    have hp3 : ((((pAt st en 8).2.2).getD k []).map D.int)[1]? = some (.int (pr1 st en k)) := getMap (by omega)
    refine Exs.cons (Ex.assign (d := .tup [.int (bg + pr0 st en k + 1), .int (bg + pr1 st en k + 1)]) 18 V ?cagain rfl (.inl rfl)) ?_
    case cagain =>
      apply Ev.call
      case hf => exact (Ev.gname (v := .ref 173) V rfl (by kernel_rfl))
      case ha =>
        refine EvL.cons (d := .str (wrote (bg + pr0 st en k) (bg + pr1 st en k + 1) (wy.getD k 0 + 1))) ?_ (EvL.cons (Ev.bin (Ev.itemL (Ev.name 5 rfl rfl) (Ev.name 11 rfl rfl) (hW k hk)) Ev.int F2.addI) EvL.nil)
        apply Ev.call
        case hf => exact (Ev.gname (v := .ref 159) V rfl (by kernel_rfl))
        case ha => exact EvL.cons (Ev.name 16 rfl rfl) (EvL.cons (Ev.name 17 rfl rfl) (EvL.cons (Ev.bin (Ev.itemL (Ev.name 5 rfl rfl) (Ev.name 11 rfl rfl) (hW k hk)) Ev.int F2.addI) EvL.nil))
        case hk => exact (Kept.ref (by kernel_rfl))
        case hc => exact (c_wrote V (by omega) (by omega) (by omega) (by omega) (by omega)).le (by first | decide | omega)
        all_goals rfl
      case hk => exact (Kept.ref (by kernel_rfl))
      case hc => exact (hread (bg + pr0 st en k) (bg + pr1 st en k + 1) (wy.getD k 0 + 1) (by omega) (by omega) (by omega) (by omega) (by omega) (by omega)).le (by first | decide | omega)
      all_goals rfl
    refine Exs.cons (Ex.ife (b := false) (Ts.cmp (d2 := .tup [.int (bg + pr0 st en k + 1), .int (bg + pr1 st en k + 1)]) (Ev.name 18 rfl rfl) (Ev.tup V (EvL.cons (Ev.bin (Ev.bin (Ev.name 2 rfl rfl) (Ev.itemL (k := 0) (Ev.itemL (Ev.name 15 rfl rfl) (Ev.name 11 rfl rfl) hp1) Ev.int hp2) F2.addI) Ev.int F2.addI) (EvL.cons (Ev.bin (Ev.bin (Ev.name 2 rfl rfl) (Ev.itemL (k := 1) (Ev.itemL (Ev.name 15 rfl rfl) (Ev.name 11 rfl rfl) hp1) Ev.int hp3) F2.addI) Ev.int F2.addI) EvL.nil)) (by show 2 ≤ sizeLine; decide)) (F2.neSame rfl)) (fun h => by cases h) (fun _ => Exs.nil)) ?_
    refine (Ex.one' (Ex.ife (b := false) (Ts.cmp (d2 := .tup [.int (bg + pr0 st en k), if (wy.getD k 0).fmod 2 = 0 then .int 0 else D.none]) ?ctwo (Ev.tup V (EvL.cons (Ev.name 16 rfl rfl) (EvL.cons ?cife EvL.nil)) (by show 2 ≤ sizeLine; decide)) (F2.neSame ?okw)) (fun h => by cases h) (fun _ => Exs.nil))).fgt ⟨.inr rfl, .inr rfl, .inr rfl, .inr rfl, .inr rfl, .inr rfl, .inr rfl, .inr rfl, .inr rfl, .inr rfl, .inr rfl, .inl rfl, .inl rfl, .inl rfl, .inl rfl, .inr rfl, .inl rfl, .inl rfl, .inl rfl, .inl rfl, .inl rfl, .inl rfl, .inl rfl, .inl rfl, .inl rfl, .inl rfl, trivial⟩
    case okw => split <;> rfl
    case ctwo =>
      apply Ev.call
      case hf => exact (Ev.gname (v := .ref 166) V rfl (by kernel_rfl))
      case ha =>
        refine EvL.cons (d := .str (wrote (bg + pr0 st en k) (bg + pr0 st en k) (wy.getD k 0))) ?_ EvL.nil
        apply Ev.call
        case hf => exact (Ev.gname (v := .ref 159) V rfl (by kernel_rfl))
        case ha => exact EvL.cons (Ev.name 16 rfl rfl) (EvL.cons (Ev.name 16 rfl rfl) (EvL.cons (Ev.itemL (Ev.name 5 rfl rfl) (Ev.name 11 rfl rfl) (hW k hk)) EvL.nil))
        case hk => exact (Kept.ref (by kernel_rfl))
        case hc => exact (c_wrote V (by omega) (by omega) (by omega) (by omega) (by omega)).le (by first | decide | omega)
        all_goals rfl
      case hk => exact (Kept.ref (by kernel_rfl))
      case hc => exact (hempty (bg + pr0 st en k) (wy.getD k 0) (by omega) (by omega) (by omega) (by omega)).le (by first | decide | omega)
      all_goals rfl
    case cife =>
      refine Ev.ife (b := (wy.getD k 0).fmod 2 == 0) (Ts.cmp (Ev.bin (Ev.itemL (Ev.name 5 rfl rfl) (Ev.name 11 rfl rfl) (hW k hk)) Ev.int (F2.modI (by decide))) Ev.int F2.eqI) (fun hb => ?_) (fun hb => ?_)
      · rw [if_pos (by simpa using hb)]; exact Ev.int
      · rw [if_neg (by simpa using hb)]; exact Ev.noneC
  have htn := hO.lt
  have htl5 := hO.tl
  have hop := hO.op
  refine Rt.cons (Ex.assign (d := .lst ((turnsOf st).map nat)) 19 V ?csorted rfl (.inl rfl)) ?_
  case csorted =>
    apply Ev.sorted5 (m := 27) (i0 := 3) V rfl ls htn
    case hsorted => exact (Ev.bname (v := .builtin "sorted") V rfl (by kernel_rfl) (by decide +kernel))
    case hrange => exact (Ev.bname (v := .type "range") V rfl (by kernel_rfl) (by decide +kernel))
    case hkw => rfl
    case hkwe => rfl
    case hm => simp [tabsL]
    case hC => kernel_rfl
    case hcl => rfl
    case hcode => rfl
    case hq => with_unfolding_all rfl
    case hdef => rfl
    case hi0 => rfl
    case hr0 => rfl
    case hk0 => rfl
    case hlk => rfl
    case hsc => decide +kernel
    case hgen => rfl
    case hco => rfl
    case hkf => rfl
    case hbind => intro pm code ctv v; rfl
    case hbody => exact fun k hk X L cl qual fa code => Ev.tup V (EvL.cons (Ev.itemL (Ev.name 1 rfl rfl) (Ev.name 0 rfl rfl) (hS k hk)) (EvL.cons (Ev.name 0 rfl rfl) EvL.nil)) (by show 2 ≤ sizeLine; decide)
    all_goals rfl
  generalize turnsOf st = tu at *
  refine Rt.cons (Ex.assign (d := .lst (([] : List Nat).map nat)) 20 V (Ev.lst V EvL.nil (by decide)) rfl (.inl rfl)) ?_
  refine Rt.cons (boxNew true (ds := []) (i := 21) V EvL.nil (fun _ _ _ h _ _ => by simpa only [D.IsL] using h) (by decide) rfl rfl (by simp [vals])) ?_
  refine Rt.cons (Ex.forIn (ds := tu.map nat) false V (fun i => [(.val (.lst (ns.map D.int))), (.val (.lst (cs.map D.int))), (.val (.int bg)), (.val (.lst (st.map D.int))), (.val (.lst (en.map D.int))), (.val (.lst (wy.map D.int))), (.val (.lst ((rsOf bg st en).map pairD))), (.val (.lst (ts.map thing))), (.val (parentsD [ts.take (ts.length / 4 + 1), [], ts.drop (ts.length / 4 + 1)])), (.val (.lst ((pasts5 st en).map D.str))), (.val (.lst ((futs5 st en).map D.str))), .un, .un, .un, .un, (.val (nestD (pAt st en 8).2.2)), .un, .un, .un, (.val (.lst (tu.map nat))), (.val (.lst ((openAt st en tu i).1.map nat))), (.box (FlatL true ((openAt st en tu i).2.map nat))), .un, .un, .un, .un]) (It.lst V (Ev.name 19 rfl rfl)) ?_ ?_) ?_
  · intro d hd
    obtain ⟨k, hk, rfl⟩ := List.mem_map.mp hd
    exact .inl ⟨rfl, _, _, rfl⟩
  · intro i d hd X'
    rw [List.getElem?_map] at hd
    obtain ⟨k, hkt, rfl⟩ : ∃ b, tu[i]? = some b ∧ d = nat b := by
      cases h : tu[i]? with
      | none => rw [h] at hd; cases hd
      | some b => rw [h] at hd; cases hd; exact ⟨b, rfl, rfl⟩
    have hi : i < tu.length := (List.getElem?_eq_some_iff.mp hkt).1
    have hk : k < 5 := htn k (List.mem_of_getElem? hkt)
    have hkd : tu.getD i 0 = k := by rw [List.getD_eq_getElem?_getD, hkt]; rfl
    obtain ⟨o1, o2, o3⟩ := openAt_ok (st := st) (en := en) htn i (Nat.le_of_lt hi)
    have hstep : openAt st en tu (i + 1) = openStep st en k (openAt st en tu i) := by rw [openAt, hkd]
    have conv : ∀ {f : Fd} {ρ : List Vr} {sts : List Stmt}, Exs W 39 f ρ sts [(.val (.lst (ns.map D.int))), (.val (.lst (cs.map D.int))), (.val (.int bg)), (.val (.lst (st.map D.int))), (.val (.lst (en.map D.int))), (.val (.lst (wy.map D.int))), (.val (.lst ((rsOf bg st en).map pairD))), (.val (.lst (ts.map thing))), (.val (parentsD [ts.take (ts.length / 4 + 1), [], ts.drop (ts.length / 4 + 1)])), (.val (.lst ((pasts5 st en).map D.str))), (.val (.lst ((futs5 st en).map D.str))), .un, .un, .un, .un, (.val (nestD (pAt st en 8).2.2)), .un, .un, .un, (.val (.lst (tu.map nat))), (.val (.lst ((openStep st en k (openAt st en tu i)).1.map nat))), (.box (FlatL true ((openStep st en k (openAt st en tu i)).2.map nat))), .un, .un, .un, .un] → Exs W 39 f ρ sts [(.val (.lst (ns.map D.int))), (.val (.lst (cs.map D.int))), (.val (.int bg)), (.val (.lst (st.map D.int))), (.val (.lst (en.map D.int))), (.val (.lst (wy.map D.int))), (.val (.lst ((rsOf bg st en).map pairD))), (.val (.lst (ts.map thing))), (.val (parentsD [ts.take (ts.length / 4 + 1), [], ts.drop (ts.length / 4 + 1)])), (.val (.lst ((pasts5 st en).map D.str))), (.val (.lst ((futs5 st en).map D.str))), .un, .un, .un, .un, (.val (nestD (pAt st en 8).2.2)), .un, .un, .un, (.val (.lst (tu.map nat))), (.val (.lst ((openAt st en tu (i + 1)).1.map nat))), (.box (FlatL true ((openAt st en tu (i + 1)).2.map nat))), .un, .un, .un, .un] := fun h => by rw [hstep]; exact h
    refine ⟨_, Asn.name V 11 rfl (.inr ⟨rfl, rfl⟩), conv ?_⟩
    clear conv hstep
    generalize openAt st en tu i = a at o1 o2 o3 ⊢
    obtain ⟨tl, op⟩ := a
    dsimp only [openStep] at o1 o2 o3 ⊢
    have elen : ((tl.map nat).length : Int) = (tl.length : Int) := by rw [List.length_map]
    refine Exs.cons (Ex.assign (d := nat tl.length) 22 V (Ev.conv (by apply Ev.call; (case hf => exact (Ev.bname (v := .builtin "len") V rfl (by kernel_rfl) (by decide +kernel))); (case ha => exact (EvL.cons (Ev.name 20 rfl rfl) EvL.nil)); (case hk => exact Kept.builtin); (case hc => exact Cl.lenL (by rw [List.length_map]; omega)); all_goals rfl) (congrArg D.int elen)) rfl (.inl rfl)) ?_
    refine Exs.cons (Ex.forIn (ds := nums 0 (tl.map nat)) true V (fun j => [(.val (.lst (ns.map D.int))), (.val (.lst (cs.map D.int))), (.val (.int bg)), (.val (.lst (st.map D.int))), (.val (.lst (en.map D.int))), (.val (.lst (wy.map D.int))), (.val (.lst ((rsOf bg st en).map pairD))), (.val (.lst (ts.map thing))), (.val (parentsD [ts.take (ts.length / 4 + 1), [], ts.drop (ts.length / 4 + 1)])), (.val (.lst ((pasts5 st en).map D.str))), (.val (.lst ((futs5 st en).map D.str))), (.val (nat k)), .un, .un, .un, (.val (nestD (pAt st en 8).2.2)), .un, .un, .un, (.val (.lst (tu.map nat))), (.val (.lst (tl.map nat))), (.box (FlatL true (op.map nat))), (.val (nat (colAt st en k tl j))), .un, .un, .un]) (It.enum V (Ev.bname (v := .type "enumerate") V rfl (by kernel_rfl) (by decide +kernel)) (Ev.name 20 rfl rfl)) ?_ ?_) ?_
    · intro d hd
      obtain ⟨i, e', rfl, hm⟩ := mem_nums (P := fun _ => True) (fun _ _ => trivial) hd
      exact .inr ⟨rfl, _, _, _, _, rfl, rfl⟩
    · intro j d hd X''
      obtain ⟨e, he', rfl⟩ := nums_get hd
      rw [List.getElem?_map] at he'
      obtain ⟨t, ht, rfl⟩ : ∃ b, tl[j]? = some b ∧ e = nat b := by
        cases h : tl[j]? with
        | none => rw [h] at he'; cases he'
        | some b => rw [h] at he'; cases he'; exact ⟨b, rfl, rfl⟩
      have hj : j < tl.length := (List.getElem?_eq_some_iff.mp ht).1
      have ht5 : t < 5 := o1 t (List.mem_of_getElem? ht)
      have htd : tl.getD j 0 = t := by rw [List.getD_eq_getElem?_getD, ht]; rfl
      refine ⟨_, Asn.tuple V (.cons (Asn.name V 23 rfl (.inl rfl)) rfl (.cons (Asn.name V 24 rfl (.inl rfl)) rfl .nil)), ?_⟩
      have hstep : colAt st en k tl (j + 1) = if en.getD t 0 ≤ st.getD k 0 ∧ colAt st en k tl j = tl.length then j else colAt st en k tl j := by rw [colAt, htd]
      have conv : ∀ {f : Fd} {ρ : List Vr} {sts : List Stmt}, Exs W 39 f ρ sts [(.val (.lst (ns.map D.int))), (.val (.lst (cs.map D.int))), (.val (.int bg)), (.val (.lst (st.map D.int))), (.val (.lst (en.map D.int))), (.val (.lst (wy.map D.int))), (.val (.lst ((rsOf bg st en).map pairD))), (.val (.lst (ts.map thing))), (.val (parentsD [ts.take (ts.length / 4 + 1), [], ts.drop (ts.length / 4 + 1)])), (.val (.lst ((pasts5 st en).map D.str))), (.val (.lst ((futs5 st en).map D.str))), (.val (nat k)), .un, .un, .un, (.val (nestD (pAt st en 8).2.2)), .un, .un, .un, (.val (.lst (tu.map nat))), (.val (.lst (tl.map nat))), (.box (FlatL true (op.map nat))), (.val (nat (if en.getD t 0 ≤ st.getD k 0 ∧ colAt st en k tl j = tl.length then j else colAt st en k tl j))), .un, .un, .un] → Exs W 39 f ρ sts [(.val (.lst (ns.map D.int))), (.val (.lst (cs.map D.int))), (.val (.int bg)), (.val (.lst (st.map D.int))), (.val (.lst (en.map D.int))), (.val (.lst (wy.map D.int))), (.val (.lst ((rsOf bg st en).map pairD))), (.val (.lst (ts.map thing))), (.val (parentsD [ts.take (ts.length / 4 + 1), [], ts.drop (ts.length / 4 + 1)])), (.val (.lst ((pasts5 st en).map D.str))), (.val (.lst ((futs5 st en).map D.str))), (.val (nat k)), .un, .un, .un, (.val (nestD (pAt st en 8).2.2)), .un, .un, .un, (.val (.lst (tu.map nat))), (.val (.lst (tl.map nat))), (.box (FlatL true (op.map nat))), (.val (nat (colAt st en k tl (j + 1)))), .un, .un, .un] := fun h => by rw [hstep]; exact h
      refine conv ?_
      clear conv hstep
      generalize colAt st en k tl j = col
      obtain ⟨q1, q2, q3, q4, q5, q6⟩ := qt_facts ht5 hk
      refine Exs.cons (Ex.assign (d := .str (qt (t, k))) 12 V (Ev.text ?cqn) rfl (.inr ⟨rfl, rfl⟩)) ?_
      case cqn =>
        apply Ev.call
        case hf => exact (Ev.gname (v := .ref 145) V rfl (by kernel_rfl))
        case ha => exact EvL.cons (Ev.itemS Ev.str (Ev.name 24 rfl rfl) (vwxyz_get ht5)) (EvL.cons (Ev.itemS Ev.str (Ev.name 11 rfl rfl) (vwxyz_get hk)) EvL.nil)
        case hk => exact (Kept.ref (by kernel_rfl))
        case hc => exact Cl.qn2 V (show 1 ≤ 1000 by decide) (show 1 ≤ 1000 by decide) (show 1 ≠ 0 by decide)
        all_goals rfl
      have hfd := hT.fd t k ht5 hk
      have etold : ([ts.take (ts.length / 4 + 1), [], ts.drop (ts.length / 4 + 1)].flatten.filter (selC (qt (t, k)))).map Tag.told = if en.getD t 0 ≤ st.getD k 0 then [.tup [.str (qt (t, k)), .int 0], .tup [.str (qt (t, k)), .int 1]] else [] := by
        rw [hflat, hfd]; split <;> rfl
      refine Exs.cons (Ex.assign (d := .lst (if en.getD t 0 ≤ st.getD k 0 then [.tup [.str (qt (t, k)), .int 0], .tup [.str (qt (t, k)), .int 1]] else [])) 25 V (Ev.conv (Ev.toldGen (m := 27) (res := [ts.take (ts.length / 4 + 1), [], ts.drop (ts.length / 4 + 1)].flatten.filter (selC (qt (t, k)))) V rfl (hfC (m := 27) (b := false) (x := qt (t, k)) rfl (by rw [q5]; decide) q3 q4 rfl V (Ev.gname (v := .ref 35) V rfl (by kernel_rfl)) Ev.noneC (Ev.tup V (EvL.cons Ev.str (EvL.cons (Ev.name 12 rfl rfl) EvL.nil)) (by show 2 ≤ sizeLine; decide))) Ev.noneC (Ev.name 8 rfl rfl) parents_of (by rw [hflat, hfd]; split <;> simp) (Ev.gname (v := .ref 190) V rfl (by kernel_rfl))) (congrArg D.lst etold)) rfl (.inl rfl)) ?_
      have ok2 : okD 8 (.lst [.tup [.str (qt (t, k)), .int 0], .tup [.str (qt (t, k)), .int 1]]) = true := by
        simp only [okD, okDs, qt_ok ht5 hk, Bool.and_true]
      have hn1 : ∀ m, F2 W m (compareOp .NotEq) (.lst (if en.getD t 0 ≤ st.getD k 0 then [.tup [.str (qt (t, k)), .int 0], .tup [.str (qt (t, k)), .int 1]] else [])) (.lst []) (D.bool (decide (en.getD t 0 ≤ st.getD k 0))) := fun m => by
        by_cases h : en.getD t 0 ≤ st.getD k 0
        · rw [if_pos h, decide_eq_true h]
          have := F2.neD (W := W) (n := m) (b := .lst []) ok2 rfl
          simpa [eqvD, dP, dPs, PyData.eqv, PyData.eqvAll] using this
        · rw [if_neg h, decide_eq_false h]
          exact F2.neSame rfl
      have hn2 : ∀ m, decide (en.getD t 0 ≤ st.getD k 0) = true → F2 W m (compareOp .NotEq) (.lst (if en.getD t 0 ≤ st.getD k 0 then [.tup [.str (qt (t, k)), .int 0], .tup [.str (qt (t, k)), .int 1]] else [])) (.lst [.tup [.str (qt (t, k)), .int 0], .tup [.str (qt (t, k)), .int 1]]) (D.bool false) := fun m h => by
        rw [if_pos (of_decide_eq_true h)]
        exact F2.neSame ok2
      refine Exs.cons (Ex.ife (b := false) (Ts.conv (Ts.and (b2 := false) (Ts.cmp (Ev.name 25 rfl rfl) (Ev.lst V EvL.nil (by decide)) (hn1 _)) (fun hb => Ts.cmp (Ev.name 25 rfl rfl) (Ev.lst V (EvL.cons (Ev.tup V (EvL.cons (Ev.name 12 rfl rfl) (EvL.cons Ev.int EvL.nil)) (by show 2 ≤ sizeLine; decide)) (EvL.cons (Ev.tup V (EvL.cons (Ev.name 12 rfl rfl) (EvL.cons Ev.int EvL.nil)) (by show 2 ≤ sizeLine; decide)) EvL.nil)) (by show 2 ≤ sizeLine; decide)) (hn2 _ hb))) (Bool.and_false _)) (fun h => by cases h) (fun _ => Exs.nil)) ?_
      refine (Ex.one' (Ex.ife (b := decide (en.getD t 0 ≤ st.getD k 0) && ((col : Int) == (tl.length : Int))) (ρ' := [(.val (.lst (ns.map D.int))), (.val (.lst (cs.map D.int))), (.val (.int bg)), (.val (.lst (st.map D.int))), (.val (.lst (en.map D.int))), (.val (.lst (wy.map D.int))), (.val (.lst ((rsOf bg st en).map pairD))), (.val (.lst (ts.map thing))), (.val (parentsD [ts.take (ts.length / 4 + 1), [], ts.drop (ts.length / 4 + 1)])), (.val (.lst ((pasts5 st en).map D.str))), (.val (.lst ((futs5 st en).map D.str))), (.val (nat k)), (.val (.str (qt (t, k)))), .un, .un, (.val (nestD (pAt st en 8).2.2)), .un, .un, .un, (.val (.lst (tu.map nat))), (.val (.lst (tl.map nat))), (.box (FlatL true (op.map nat))), (.val (nat (if en.getD t 0 ≤ st.getD k 0 ∧ col = tl.length then j else col))), (.val (nat (0 + j))), (.val (nat t)), (.val (.lst (if en.getD t 0 ≤ st.getD k 0 then [.tup [.str (qt (t, k)), .int 0], .tup [.str (qt (t, k)), .int 1]] else [])))]) (Ts.and (Ts.cmp (Ev.name 25 rfl rfl) (Ev.lst V EvL.nil (by decide)) (hn1 _)) (fun _ => Ts.cmp (Ev.name 22 rfl rfl) (Ev.conv (by apply Ev.call; (case hf => exact (Ev.bname (v := .builtin "len") V rfl (by kernel_rfl) (by decide +kernel))); (case ha => exact (EvL.cons (Ev.name 20 rfl rfl) EvL.nil)); (case hk => exact Kept.builtin); (case hc => exact Cl.lenL (by rw [List.length_map]; omega)); all_goals rfl) (congrArg D.int elen)) F2.eqI)) (fun hb => ?_) (fun hb => ?_))).fgt ⟨.inr rfl, .inr rfl, .inr rfl, .inr rfl, .inr rfl, .inr rfl, .inr rfl, .inr rfl, .inr rfl, .inr rfl, .inr rfl, .inr rfl, .inl rfl, .inl rfl, .inl rfl, .inr rfl, .inl rfl, .inl rfl, .inl rfl, .inr rfl, .inr rfl, .inr rfl, .inr rfl, .inl rfl, .inl rfl, .inl rfl, trivial⟩
      · rw [Bool.and_eq_true, decide_eq_true_eq, beq_iff_eq] at hb
        rw [show (if en.getD t 0 ≤ st.getD k 0 ∧ col = tl.length then j else col) = j from if_pos ⟨hb.1, by omega⟩]
        exact Ex.one' (Ex.assign 22 V (Ev.conv (Ev.name 23 rfl rfl) (by rw [Nat.zero_add])) rfl (.inl rfl))
      · rw [show (if en.getD t 0 ≤ st.getD k 0 ∧ col = tl.length then j else col) = col from if_neg (fun h => by rw [decide_eq_true h.1, h.2] at hb; simp at hb)]
        exact Exs.nil
    rw [nums_length, List.length_map]
    have hcol := colAt_le (st := st) (en := en) (k := k) (tl := tl) tl.length (Nat.le_refl _)
    generalize colAt st en k tl tl.length = col at hcol ⊢
    have et1 : lsl (tl.map nat) none (some (col : Int)) = (tl.take col).map nat := by rw [lsl_take, List.map_take]
    have et2 : lsl (tl.map nat) (some ((col : Int) + 1)) none = (tl.drop (col + 1)).map nat := by
      rw [show (col : Int) + 1 = ((col + 1 : Nat) : Int) from rfl, lsl_drop, List.map_drop]
    have et3 : (tl.take col).map nat ++ [nat k] ++ (tl.drop (col + 1)).map nat = (tl.take col ++ [k] ++ tl.drop (col + 1)).map nat := by simp
    have hs5 : tl.length ≤ sizeLine := Nat.le_trans (show tl.length ≤ 5 by omega) (by decide)
    refine Exs.cons (Ex.ife (b := ((col : Int) == (tl.length : Int))) (ρ' := [(.val (.lst (ns.map D.int))), (.val (.lst (cs.map D.int))), (.val (.int bg)), (.val (.lst (st.map D.int))), (.val (.lst (en.map D.int))), (.val (.lst (wy.map D.int))), (.val (.lst ((rsOf bg st en).map pairD))), (.val (.lst (ts.map thing))), (.val (parentsD [ts.take (ts.length / 4 + 1), [], ts.drop (ts.length / 4 + 1)])), (.val (.lst ((pasts5 st en).map D.str))), (.val (.lst ((futs5 st en).map D.str))), (.val (nat k)), .un, .un, .un, (.val (nestD (pAt st en 8).2.2)), .un, .un, .un, (.val (.lst (tu.map nat))), (.val (.lst (tl.map nat))), (.box (FlatL true ((if col = tl.length then op ++ [k] else op).map nat))), (.val (nat col)), .un, .un, .un]) (Ts.cmp (Ev.name 22 rfl rfl) (Ev.conv (by apply Ev.call; (case hf => exact (Ev.bname (v := .builtin "len") V rfl (by kernel_rfl) (by decide +kernel))); (case ha => exact (EvL.cons (Ev.name 20 rfl rfl) EvL.nil)); (case hk => exact Kept.builtin); (case hc => exact Cl.lenL (by rw [List.length_map]; omega)); all_goals rfl) (congrArg D.int elen)) F2.eqI) (fun hb => ?_) (fun hb => ?_)) ?_
    · rw [beq_iff_eq] at hb
      rw [if_pos (by omega), List.map_append]
      exact Ex.one' (boxApp (i := 21) V rfl rfl (Ev.name 11 rfl rfl) rfl (by rw [List.length_map]; omega))
    · rw [if_neg (fun h => by rw [h] at hb; simp at hb)]
      exact Exs.nil
    refine (Ex.one' (Ex.assign (d := .lst ((tl.take col ++ [k] ++ tl.drop (col + 1)).map nat)) 20 V (Ev.conv (Ev.bin (Ev.bin (Ev.conv (Ev.sliceL V (Ev.name 20 rfl rfl) EvP.none (EvP.some (Ev.name 22 rfl rfl)) (by rw [List.length_map]; exact hs5)) (congrArg D.lst et1)) (Ev.lst V (EvL.cons (Ev.name 11 rfl rfl) EvL.nil) (by show 1 ≤ sizeLine; decide)) (F2.addL V ?z1)) (Ev.conv (Ev.sliceL V (Ev.name 20 rfl rfl) (EvP.some (Ev.bin (Ev.name 22 rfl rfl) Ev.int F2.addI)) EvP.none (by rw [List.length_map]; exact hs5)) (congrArg D.lst et2)) (F2.addL V ?z2)) (congrArg D.lst et3)) rfl (.inl rfl))).fgt ⟨.inr rfl, .inr rfl, .inr rfl, .inr rfl, .inr rfl, .inr rfl, .inr rfl, .inr rfl, .inr rfl, .inr rfl, .inr rfl, .inl rfl, .inl rfl, .inl rfl, .inl rfl, .inr rfl, .inl rfl, .inl rfl, .inl rfl, .inr rfl, .inr rfl, .inr rfl, .inl rfl, .inl rfl, .inl rfl, .inl rfl, trivial⟩
    case z1 => exact Nat.le_trans (show _ ≤ 6 by simp; omega) (by decide)
    case z2 => exact Nat.le_trans (show _ ≤ 12 by simp; omega) (by decide)
  rw [List.length_map, htl5]
  refine Rt.freeze (i := 21) rfl rfl hXL ?_
  refine Rt.ret (Ev.cmp (d2 := .lst ((aloneAt st en tu 5).1.map nat)) (Ev.conv (Ev.name 21 rfl rfl) (congrArg (fun l => D.lst (l.map nat)) hop)) ?calone (F2.eqSame ?okal))
  case okal => exact okNats _
  case calone =>
    apply Ev.call
    case hf => exact (Ev.gname (v := .ref 205) V rfl (by kernel_rfl))
    case ha => exact EvL.cons (Ev.name 19 rfl rfl) (EvL.cons (Ev.name 3 rfl rfl) (EvL.cons (Ev.name 4 rfl rfl) EvL.nil))
    case hk => exact (Kept.ref (by kernel_rfl))
    case hc => have := c_alone V ls le htn (Nat.le_of_eq htl5); rw [htl5] at this; exact this.le (by first | decide | omega)
    all_goals rfl
end
end Mine
end
section -- S70
open PySem PySem.W PyProof.Rows PySem.Calls PySem.Spec
set_option Elab.async false
set_option maxRecDepth 100000
set_option linter.unusedVariables false
set_option autoImplicit false
set_option pp.maxSteps 600
namespace Mine
section
variable {W : Wd} {f : Fd} {ρ ρ' : List Vr} {μ : Mu} {n : Nat}

theorem ahead_rs {bg : Int} {st en : List Int} {i j : Nat} (hi : i < 5) (hj : j < 5) : ahead (rsOf bg st en) i j = decide (en.getD i 0 ≤ st.getD j 0) := by
  have g : ∀ k, k < 5 → (rsOf bg st en).getD k (0, 0) = (bg + st.getD k 0 + 1, bg + en.getD k 0) := fun k hk => by
    unfold rsOf
    rw [List.getD_eq_getElem?_getD, List.getElem?_map, List.getElem?_range hk]; rfl
  unfold ahead
  rw [g i hi, g j hj]
  refine decide_eq_decide.mpr ?_
  constructor <;> intro h <;> omega
theorem filt_one {p : Nat → Bool} {k : Nat} (hk : k < 5) : ((List.range 5).filter p).filter (· == k) = if p k = true then [k] else [] := by
  have e : (List.range 5).filter (· == k) = [k] := by
    have : ∀ k : Fin 5, (List.range 5).filter (· == k.val) = [k.val] := by decide
    exact this ⟨k, hk⟩
  rw [List.filter_filter]
  have : (List.range 5).filter (fun a => (a == k) && p a) = ((List.range 5).filter (· == k)).filter p := by
    rw [List.filter_filter]
    refine List.filter_congr fun a _ => ?_
    rw [Bool.and_comm]
  rw [this, e, List.filter_cons, List.filter_nil]
theorem flatMap_if {α : Type} {p : Nat → Bool} {g : Nat → α} : ∀ l : List Nat, (l.flatMap fun i => if p i = true then [g i] else []) = (l.filter p).map g
  | [] => rfl
  | a :: l => by
    rw [List.flatMap_cons, flatMap_if l, List.filter_cons]
    cases h : p a <;> simp
/-- the pairs whose second is k -/
theorem pairs_snd {bg : Int} {st en : List Int} {k : Nat} (hk : k < 5) : (pairsOf (rsOf bg st en)).filter (fun q => q.2 == k) = (dueL st en k).map fun i => (i, k) := by
  unfold pairsOf
  rw [List.filter_flatMap, dueL, ← flatMap_if]
  rw [List.flatMap_def, List.flatMap_def]
  refine congrArg List.flatten (List.map_congr_left fun i hi => ?_)
  rw [List.filter_map]
  show ((((List.range 5).filter (ahead (rsOf bg st en) i)).filter (· == k)).map fun j => (i, j)) = _
  rw [filt_one hk, ahead_rs (List.mem_range.mp hi) hk]
  split <;> rfl
theorem pairs_fst {bg : Int} {st en : List Int} {k : Nat} (hk : k < 5) : (pairsOf (rsOf bg st en)).filter (fun q => q.1 == k) = (futL st en k).map fun j => (k, j) := by
  unfold pairsOf
  rw [List.filter_flatMap]
  have e : ∀ i, (((List.range 5).filter (ahead (rsOf bg st en) i)).map fun j => (i, j)).filter (fun q => q.1 == k) = if (i == k) = true then ((List.range 5).filter (ahead (rsOf bg st en) i)).map (fun j => (i, j)) else [] := fun i => by
    rw [List.filter_map]
    show (((((List.range 5).filter (ahead (rsOf bg st en) i)).filter fun _ => i == k)).map fun j => (i, j)) = _
    cases i == k <;> simp
  have f : futL st en k = (List.range 5).filter (ahead (rsOf bg st en) k) := by
    unfold futL
    refine List.filter_congr fun j hj => ?_
    rw [ahead_rs hk (List.mem_range.mp hj)]
  simp only [e]
  rw [f]
  have : ∀ (g : Nat → List (Nat × Nat)), ((List.range 5).flatMap fun i => if (i == k) = true then g i else []) = g k := fun g => by
    rcases (show k = 0 ∨ k = 1 ∨ k = 2 ∨ k = 3 ∨ k = 4 by omega) with rfl | rfl | rfl | rfl | rfl <;> simp [List.range, List.range.loop]
  exact this fun i => ((List.range 5).filter (ahead (rsOf bg st en) i)).map fun j => (i, j)
theorem pairs_one {bg : Int} {st en : List Int} {i k : Nat} (hi : i < 5) (hk : k < 5) : (pairsOf (rsOf bg st en)).filter (fun q => q.1 == i && q.2 == k) = if en.getD i 0 ≤ st.getD k 0 then [(i, k)] else [] := by
  have : (pairsOf (rsOf bg st en)).filter (fun q => q.1 == i && q.2 == k) = ((pairsOf (rsOf bg st en)).filter (fun q => q.2 == k)).filter fun q => q.1 == i := by
    rw [List.filter_filter]
  rw [this, pairs_snd hk, List.filter_map]
  show ((((List.range 5).filter fun i => decide (en.getD i 0 ≤ st.getD k 0)).filter (· == i)).map fun i => (i, k)) = _
  rw [filt_one hi]
  by_cases h : en.getD i 0 ≤ st.getD k 0
  · rw [if_pos h, decide_eq_true h]; rfl
  · rw [if_neg h, decide_eq_false h]; rfl
theorem selA_facts {k : Nat} (hk : k < 5) : selA k (.str (S "vw")) = false ∧ selA k (.str (S "{vw}u")) = false ∧ (∀ i j, i < 5 → j < 5 → selA k (.str (qt (i, j))) = (j == k) ∧ selA k (.qn (qt (i, j))) = false) ∧ ∀ i, i < 5 → selA k (.qn (let1 i)) = (i == k) := by
  have : ∀ k : Fin 5, selA k.val (.str (S "vw")) = false ∧ selA k.val (.str (S "{vw}u")) = false ∧ (∀ i j : Fin 5, selA k.val (.str (qt (i.val, j.val))) = (j.val == k.val) ∧ selA k.val (.qn (qt (i.val, j.val))) = false) ∧ ∀ i : Fin 5, selA k.val (.qn (let1 i.val)) = (i.val == k.val) := by decide +kernel
  obtain ⟨a, b, c, d⟩ := this ⟨k, hk⟩
  exact ⟨a, b, fun i j hi hj => c ⟨i, hi⟩ ⟨j, hj⟩, fun i hi => d ⟨i, hi⟩⟩
theorem selB_facts {k : Nat} (hk : k < 5) : selB k (.str (S "vw")) = false ∧ selB k (.str (S "{vw}u")) = false ∧ (∀ i j, i < 5 → j < 5 → selB k (.str (qt (i, j))) = (i == k)) := by
  have : ∀ k : Fin 5, selB k.val (.str (S "vw")) = false ∧ selB k.val (.str (S "{vw}u")) = false ∧ (∀ i j : Fin 5, selB k.val (.str (qt (i.val, j.val))) = (i.val == k.val)) := by decide +kernel
  obtain ⟨a, b, c⟩ := this ⟨k, hk⟩
  exact ⟨a, b, fun i j hi hj => c ⟨i, hi⟩ ⟨j, hj⟩⟩
theorem selC_facts {k : Nat} (hk : k < 5) : (S "vw" == let1 k) = false ∧ (S "{vw}u" == let1 k) = false ∧ (∀ i j, i < 5 → j < 5 → (qt (i, j) == let1 k) = false ∧ (let1 k == qt (i, j)) = false) ∧ ∀ i, i < 5 → (let1 i == let1 k) = (i == k) := by
  have : ∀ k : Fin 5, (S "vw" == let1 k.val) = false ∧ (S "{vw}u" == let1 k.val) = false ∧ (∀ i j : Fin 5, (qt (i.val, j.val) == let1 k.val) = false ∧ (let1 k.val == qt (i.val, j.val)) = false) ∧ ∀ i : Fin 5, (let1 i.val == let1 k.val) = (i.val == k.val) := by decide +kernel
  obtain ⟨a, b, c, d⟩ := this ⟨k, hk⟩
  exact ⟨a, b, fun i j hi hj => c ⟨i, hi⟩ ⟨j, hj⟩, fun i hi => d ⟨i, hi⟩⟩
theorem selD_facts {i k : Nat} (hi : i < 5) (hk : k < 5) : (S "vw" == qt (i, k)) = false ∧ (S "{vw}u" == qt (i, k)) = false ∧ ∀ a b, a < 5 → b < 5 → (qt (a, b) == qt (i, k)) = (a == i && b == k) := by
  have h1 : ∀ i k : Fin 5, (S "vw" == qt (i.val, k.val)) = false ∧ (S "{vw}u" == qt (i.val, k.val)) = false := by decide +kernel
  have h2 : ∀ i k a b : Fin 5, (qt (a.val, b.val) == qt (i.val, k.val)) = (a.val == i.val && b.val == k.val) := by decide +kernel
  exact ⟨(h1 ⟨i, hi⟩ ⟨k, hk⟩).1, (h1 ⟨i, hi⟩ ⟨k, hk⟩).2, fun a b ha hb => h2 ⟨i, hi⟩ ⟨k, hk⟩ ⟨a, ha⟩ ⟨b, hb⟩⟩
/-- the tags that a choice keeps -/
theorem tags_filter {rs : Rs} {sel : Tag → Bool} {pS pQ : Nat × Nat → Bool} {pL : Nat → Bool} (h0 : sel .none = false) (h1 : sel (.str (S "vw")) = false) (h2 : sel (.str (S "{vw}u")) = false)
    (hS : ∀ q ∈ pairsOf rs, sel (.str (qt q)) = pS q) (hQ : ∀ q ∈ pairsOf rs, sel (.qn (qt q)) = pQ q) (hL : ∀ i, i < 5 → sel (.qn (let1 i)) = pL i) :
    (tagsOf rs).filter sel = ((pairsOf rs).filter pS).map (fun q => Tag.str (qt q)) ++ ((pairsOf rs).filter pQ).map (fun q => Tag.qn (qt q)) ++ ((List.range 5).filter pL).map fun i => Tag.qn (let1 i) := by
  unfold tagsOf
  rw [List.filter_append, List.filter_append, List.filter_append, List.filter_map, List.filter_map, List.filter_map]
  rw [show [Tag.none, Tag.str (S "vw"), Tag.str (S "{vw}u")].filter sel = [] by simp [List.filter_cons, h0, h1, h2], List.nil_append]
  rw [List.filter_congr (p := sel ∘ fun q => Tag.str (qt q)) (q := pS) fun q hq => hS q hq, List.filter_congr (p := sel ∘ fun q => Tag.qn (qt q)) (q := pQ) fun q hq => hQ q hq, List.filter_congr (p := sel ∘ fun i => Tag.qn (let1 i)) (q := pL) fun i hi => hL i (List.mem_range.mp hi)]
theorem range_one {k : Nat} (hk : k < 5) : (List.range 5).filter (fun i => i == k) = [k] := by
  have : ∀ k : Fin 5, (List.range 5).filter (fun i => i == k.val) = [k.val] := by decide
  exact this ⟨k, hk⟩
theorem tagF {bg : Int} {st en : List Int} : TagF st en (tagsOf (rsOf bg st en)) := by
  have fF : ∀ {α : Type} (l : List α), l.filter (fun _ => false) = [] := fun l => List.filter_eq_nil_iff.mpr fun _ _ h => by cases h
  refine ⟨fun x hx => ?_, fun k hk => ?_, fun k hk => ?_, fun k hk => ?_, fun i k hi hk => ?_⟩
  · unfold tagsOf at hx
    simp only [List.mem_append, List.mem_map] at hx
    rcases hx with ((hx | ⟨q, hq, e⟩) | ⟨q, hq, e⟩) | ⟨q, hq, e⟩
    · simp only [List.mem_cons, List.not_mem_nil, or_false] at hx
      rcases hx with e | e | e
      · cases e
      · cases e
        have h : (S "vw").length = 2 := by decide
        rw [h]; decide
      · cases e
        have h : (S "{vw}u").length = 5 := by decide
        rw [h]; decide
    · cases e
      obtain ⟨a, b⟩ := q
      have hm := mem_pairs hq
      rw [(qt_facts hm.1 hm.2.1).2.2.2.2.1]; decide
    · cases e
    · cases e
  · obtain ⟨a, b, c, d⟩ := selA_facts hk
    rw [tags_filter (pS := fun q => q.2 == k) (pQ := fun _ => false) (pL := fun i => i == k) rfl a b (fun q hq => (c q.1 q.2 (mem_pairs hq).1 (mem_pairs hq).2.1).1) (fun q hq => (c q.1 q.2 (mem_pairs hq).1 (mem_pairs hq).2.1).2) d, pairs_snd hk, fF, range_one hk, List.map_map]
    simp
  · obtain ⟨a, b, c⟩ := selB_facts hk
    rw [tags_filter (pS := fun q => q.1 == k) (pQ := fun _ => false) (pL := fun i => false) rfl a b (fun q hq => c q.1 q.2 (mem_pairs hq).1 (mem_pairs hq).2.1) (fun q hq => rfl) (fun _ _ => rfl), pairs_fst hk, fF, fF, List.map_map]
    simp
  · obtain ⟨a, b, c, d⟩ := selC_facts hk
    rw [tags_filter (sel := selC (let1 k)) (pS := fun q => false) (pQ := fun _ => false) (pL := fun i => i == k) rfl a b (fun q hq => (c q.1 q.2 (mem_pairs hq).1 (mem_pairs hq).2.1).1) (fun q hq => (c q.1 q.2 (mem_pairs hq).1 (mem_pairs hq).2.1).1) d, fF, range_one hk]
    simp
  · obtain ⟨a, b, c⟩ := selD_facts hi hk
    rw [tags_filter (sel := selC (qt (i, k))) (pS := fun q => q.1 == i && q.2 == k) (pQ := fun q => q.1 == i && q.2 == k) (pL := fun i => false) rfl a b (fun q hq => c q.1 q.2 (mem_pairs hq).1 (mem_pairs hq).2.1) (fun q hq => c q.1 q.2 (mem_pairs hq).1 (mem_pairs hq).2.1) (fun j hj => ((selC_facts hj).2.2.1 i k hi hk).2), pairs_one hi hk, fF]
    split <;> simp
end
end Mine
end
section -- S71
open PySem PySem.W PyProof.Rows PySem.Calls PySem.Spec
set_option Elab.async false
set_option maxRecDepth 100000
set_option linter.unusedVariables false
set_option autoImplicit false
set_option pp.maxSteps 600
namespace Mine
section
variable {W : Wd} {f : Fd} {ρ ρ' : List Vr} {μ : Mu} {n : Nat}

/-- what the answers bear: x comes ahead of y by one answer -/
noncomputable def edge (fs : List (Nat × Nat × Bool)) (x y : Nat) : Bool := fs.contains (x, y, true) || fs.contains (y, x, false)
/-- or by some -/
noncomputable def reach (fs : List (Nat × Nat × Bool)) : Nat → Nat → Nat → Bool
  | 0, x, y => edge fs x y
  | f + 1, x, y => edge fs x y || (List.range 5).any fun z => edge fs x z && reach fs f z y
/-- every way through the questions ends in an order that the answers bear -/
noncomputable def leafOk (fs : List (Nat × Nat × Bool)) : List Nat → Bool
  | [] => true
  | [_] => true
  | x :: y :: r => reach fs 3 x y && leafOk fs (y :: r)
noncomputable def chk : PySem.W.KasT (Array Nat) → List (Nat × Nat × Bool) → Bool
  | .ret a, fs => a.toList.length == 5 && a.toList.all (fun k => decide (k < 5)) && leafOk fs a.toList
  | .ask i j k, fs => chk (k true) ((i, j, true) :: fs) && chk (k false) ((i, j, false) :: fs)
theorem chk_ok : chk (PySem.W.kas_sort 5) [] = true := by decide +kernel
/-- in order: each begins no later than the next -/
noncomputable def Asc (st : List Int) : List Nat → Prop
  | [] => True
  | [_] => True
  | x :: y :: r => st.getD x 0 ≤ st.getD y 0 ∧ Asc st (y :: r)
theorem edge_le {st : List Int} {fs : List (Nat × Nat × Bool)} (hf : ∀ q ∈ fs, ltK st q.1 q.2.1 = q.2.2) {x y : Nat} (h : edge fs x y = true) : st.getD x 0 ≤ st.getD y 0 := by
  rw [edge, Bool.or_eq_true] at h
  rcases h with h | h
  · have := hf _ (List.contains_iff_mem.mp h)
    unfold ltK at this
    dsimp only at this
    split at this
    · omega
    · have := of_decide_eq_true this; omega
  · have := hf _ (List.contains_iff_mem.mp h)
    unfold ltK at this
    dsimp only at this
    split at this
    · omega
    · have := of_decide_eq_false this; omega
theorem reach_le {st : List Int} {fs : List (Nat × Nat × Bool)} (hf : ∀ q ∈ fs, ltK st q.1 q.2.1 = q.2.2) : ∀ (n : Nat) {x y : Nat}, reach fs n x y = true → st.getD x 0 ≤ st.getD y 0
  | 0, x, y, h => edge_le hf h
  | n + 1, x, y, h => by
    rw [reach, Bool.or_eq_true] at h
    rcases h with h | h
    · exact edge_le hf h
    · obtain ⟨z, _, hz⟩ := List.any_eq_true.mp h
      rw [Bool.and_eq_true] at hz
      exact Int.le_trans (edge_le hf hz.1) (reach_le hf n hz.2)
theorem leaf_asc {st : List Int} {fs : List (Nat × Nat × Bool)} (hf : ∀ q ∈ fs, ltK st q.1 q.2.1 = q.2.2) : ∀ l, leafOk fs l = true → Asc st l
  | [], _ => trivial
  | [_], _ => trivial
  | x :: y :: r, h => by
    rw [leafOk, Bool.and_eq_true] at h
    exact ⟨reach_le hf 3 h.1, leaf_asc hf (y :: r) h.2⟩
theorem chk_run {st : List Int} : ∀ (t : PySem.W.KasT (Array Nat)) (fs : List (Nat × Nat × Bool)), (∀ q ∈ fs, ltK st q.1 q.2.1 = q.2.2) → chk t fs = true →
    (kasRun (ltK st) t).toList.length = 5 ∧ (∀ k ∈ (kasRun (ltK st) t).toList, k < 5) ∧ Asc st (kasRun (ltK st) t).toList
  | .ret a, fs, hf, h => by
    rw [chk, Bool.and_eq_true, Bool.and_eq_true] at h
    rw [kasRun]
    exact ⟨by simpa using h.1.1, fun k hk => of_decide_eq_true (List.all_eq_true.mp h.1.2 k hk), leaf_asc hf _ h.2⟩
  | .ask i j k, fs, hf, h => by
    rw [chk, Bool.and_eq_true] at h
    rw [kasRun]
    cases e : ltK st i j with
    | true => exact chk_run (k true) _ (fun q hq => by
        rcases List.mem_cons.mp hq with rfl | hq
        · exact e
        · exact hf q hq) h.1
    | false => exact chk_run (k false) _ (fun q hq => by
        rcases List.mem_cons.mp hq with rfl | hq
        · exact e
        · exact hf q hq) h.2
theorem turns_ok (st : List Int) : (turnsOf st).length = 5 ∧ (∀ k ∈ turnsOf st, k < 5) ∧ Asc st (turnsOf st) := chk_run _ [] (fun q hq => by cases hq) chk_ok
theorem asc_le {st : List Int} : ∀ (l : List Nat) (k : Nat), Asc st (l ++ [k]) → ∀ o ∈ l, st.getD o 0 ≤ st.getD k 0
  | [], _, _, o, ho => by cases ho
  | [x], k, h, o, ho => by
    rw [List.mem_singleton.mp ho]; exact h.1
  | x :: y :: r, k, h, o, ho => by
    have ih := asc_le (y :: r) k h.2
    rcases List.mem_cons.mp ho with rfl | ho
    · exact Int.le_trans h.1 (ih y (List.mem_cons_self))
    · exact ih o ho
theorem asc_take {st : List Int} : ∀ (l r : List Nat), Asc st (l ++ r) → Asc st l
  | [], _, _ => trivial
  | [_], _, _ => trivial
  | x :: y :: l, r, h => ⟨h.1, asc_take (y :: l) r h.2⟩
/-- the column: a dead tail, or a new one -/
theorem col_cases {st en : List Int} {k : Nat} {tl : List Nat} : ∀ i, i ≤ tl.length → (colAt st en k tl i = tl.length ∧ ∀ j, j < i → st.getD k 0 < en.getD (tl.getD j 0) 0) ∨ (colAt st en k tl i < tl.length ∧ en.getD (tl.getD (colAt st en k tl i) 0) 0 ≤ st.getD k 0)
  | 0, _ => .inl ⟨rfl, fun j hj => absurd hj (Nat.not_lt_zero j)⟩
  | i + 1, h => by
    rw [colAt]
    rcases col_cases (st := st) (en := en) (k := k) (tl := tl) i (by omega) with ⟨h1, h2⟩ | ⟨h1, h2⟩
    · by_cases hd : en.getD (tl.getD i 0) 0 ≤ st.getD k 0
      · rw [if_pos ⟨hd, h1⟩]
        exact .inr ⟨by omega, hd⟩
      · rw [if_neg fun z => hd z.1]
        refine .inl ⟨h1, fun j hj => ?_⟩
        rcases Nat.lt_or_ge j i with hj' | hj'
        · exact h2 j hj'
        · rw [show j = i by omega]; omega
    · rw [if_neg (fun z => by omega)]
      exact .inr ⟨h1, h2⟩
/-- how many of l still go on at s -/
noncomputable def liveN (en : List Int) (l : List Nat) (s : Int) : Nat := (l.filter fun o => decide (en.getD o 0 > s)).length
theorem liveN_append {en : List Int} {l r : List Nat} {s : Int} : liveN en (l ++ r) s = liveN en l s + liveN en r s := by
  unfold liveN; rw [List.filter_append, List.length_append]
theorem liveN_one {en : List Int} {k : Nat} {s : Int} : liveN en [k] s = if en.getD k 0 > s then 1 else 0 := by
  unfold liveN
  rw [List.filter_cons]
  by_cases h : en.getD k 0 > s
  · rw [if_pos (decide_eq_true h), if_pos h]; rfl
  · rw [if_neg (by rw [decide_eq_false h]; simp), if_neg h]; rfl
theorem liveN_le {en : List Int} {l : List Nat} {s : Int} : liveN en l s ≤ l.length := List.length_filter_le _ _
theorem liveN_all {en : List Int} {s : Int} : ∀ {l : List Nat}, (∀ j, j < l.length → s < en.getD (l.getD j 0) 0) → liveN en l s = l.length
  | [], _ => rfl
  | a :: l, h => by
    rw [show a :: l = [a] ++ l from rfl, liveN_append, liveN_one, if_pos (show en.getD a 0 > s from h 0 (by simp)), liveN_all (l := l) fun j hj => by simpa using h (j + 1) (by simpa using hj)]
    simp; omega
theorem split_at {l : List Nat} {c : Nat} (h : c < l.length) : l = l.take c ++ [l.getD c 0] ++ l.drop (c + 1) := by
  rw [List.getD_eq_getElem?_getD, List.getElem?_eq_getElem h]
  simp
theorem there_live {st en : List Int} {tu : List Nat} {i k : Nat} (h : tu[i]? = some k) : there st en tu i k = liveN en (tu.take i) (st.getD k 0) + liveN en [k] (st.getD k 0) := by
  rw [← liveN_append]
  unfold there liveN
  rw [List.take_add_one, h]; rfl
theorem open_inv {st en : List Int} {tu : List Nat} (ha : Asc st tu) (hk : ∀ k ∈ tu, st.getD k 0 < en.getD k 0) : ∀ i, i ≤ tu.length →
    (aloneAt st en tu i).1 = (openAt st en tu i).2 ∧ (aloneAt st en tu i).2 = (openAt st en tu i).1.length ∧ ∀ s, (∀ o ∈ tu.take i, st.getD o 0 ≤ s) → liveN en (tu.take i) s = liveN en (openAt st en tu i).1 s
  | 0, _ => ⟨rfl, rfl, fun s _ => rfl⟩
  | i + 1, h => by
    obtain ⟨h1, h2, h3⟩ := open_inv ha hk i (by omega)
    have hi : i < tu.length := by omega
    obtain ⟨k, ht⟩ : ∃ k, tu[i]? = some k := ⟨tu[i], List.getElem?_eq_getElem hi⟩
    have hg : tu.getD i 0 = k := by rw [List.getD_eq_getElem?_getD, ht]; rfl
    have hkm := hk k (List.mem_of_getElem? ht)
    have htk : tu.take (i + 1) = tu.take i ++ [k] := by rw [List.take_add_one, ht]; rfl
    have hasc : ∀ o ∈ tu.take i, st.getD o 0 ≤ st.getD k 0 := by
      refine asc_le _ k (asc_take _ (tu.drop (i + 1)) ?_)
      rw [← htk, List.take_append_drop]; exact ha
    have hth := there_live (st := st) (en := en) ht
    rw [liveN_one, if_pos hkm, h3 _ hasc] at hth
    rw [aloneAt, openAt, hg, aloneStep, openStep]
    have hc := col_cases (st := st) (en := en) (k := k) (tl := (openAt st en tu i).1) _ (Nat.le_refl _)
    generalize openAt st en tu i = a at h1 h2 h3 hth hc ⊢
    obtain ⟨tl, op⟩ := a
    dsimp only at h1 h2 h3 hth hc ⊢
    rcases hc with ⟨hc, hall⟩ | ⟨hc, hdead⟩
    · have hl : liveN en tl (st.getD k 0) = tl.length := liveN_all hall
      rw [if_pos (by omega), if_pos hc, hc]
      refine ⟨by rw [h1], ?_, fun s hs => ?_⟩
      · rw [hth, hl]
        simp
      · rw [htk] at hs ⊢
        rw [liveN_append, h3 s fun o ho => hs o (List.mem_append_left _ ho), List.take_length, List.drop_of_length_le (Nat.le_succ _), List.append_nil, liveN_append]
    · have hsp := split_at hc
      generalize colAt st en k tl tl.length = c at hc hdead hsp ⊢
      have hcount : ∀ s, st.getD k 0 ≤ s → liveN en (tl.take c ++ [k] ++ tl.drop (c + 1)) s = liveN en tl s + liveN en [k] s := fun s hs => by
        have e : liveN en tl s = liveN en (tl.take c) s + liveN en [tl.getD c 0] s + liveN en (tl.drop (c + 1)) s := by
          rw [← liveN_append, ← liveN_append, ← hsp]
        have z : liveN en [tl.getD c 0] s = 0 := by rw [liveN_one, if_neg (by omega)]
        rw [liveN_append, liveN_append, e, z]; omega
      have hlt : liveN en tl (st.getD k 0) < tl.length := by
        have e : liveN en tl (st.getD k 0) = liveN en (tl.take c) (st.getD k 0) + liveN en [tl.getD c 0] (st.getD k 0) + liveN en (tl.drop (c + 1)) (st.getD k 0) := by
          rw [← liveN_append, ← liveN_append, ← hsp]
        have z : liveN en [tl.getD c 0] (st.getD k 0) = 0 := by rw [liveN_one, if_neg (by omega)]
        have l1 := liveN_le (en := en) (l := tl.take c) (s := st.getD k 0)
        have l2 := liveN_le (en := en) (l := tl.drop (c + 1)) (s := st.getD k 0)
        rw [List.length_take] at l1
        rw [List.length_drop] at l2
        omega
      rw [if_neg (by omega), if_neg (by omega)]
      refine ⟨h1, ?_, fun s hs => ?_⟩
      · rw [h2]
        simp
        omega
      · rw [htk] at hs ⊢
        rw [liveN_append, h3 s fun o ho => hs o (List.mem_append_left _ ho), hcount s (hs k (List.mem_append_right _ (List.mem_singleton.mpr rfl)))]
theorem openF {bg : Int} {st en wy : List Int} (G : Good bg st en wy) : OpenF st en := by
  obtain ⟨h1, h2, h3⟩ := turns_ok st
  refine ⟨h1, h2, ?_⟩
  have := (open_inv (en := en) h3 (fun k hk => G.en0 k (h2 k hk)) 5 (by omega)).1
  exact this.symm
end
end Mine
end
section -- S72
open PySem PySem.W PyProof.Rows PySem.Calls PySem.Spec
set_option Elab.async false
set_option maxRecDepth 100000
set_option linter.unusedVariables false
set_option autoImplicit false
set_option pp.maxSteps 600
namespace Mine
section
variable {W : Wd} {f : Fd} {ρ ρ' : List Vr} {μ : Mu} {n : Nat}

theorem filt_add {v : Nat} {P P' : Nat → Bool} : ∀ (l : List Nat), l.Nodup → (∀ x ∈ l, P' x = (P x || x == v)) → (l.filter P').length = (l.filter P).length + if v ∈ l ∧ P v = false then 1 else 0
  | [], _, _ => rfl
  | a :: l, hn, h => by
    have ih := filt_add l (List.nodup_cons.mp hn).2 (fun x hx => h x (List.mem_cons_of_mem _ hx))
    have ha := h a List.mem_cons_self
    have hnot := (List.nodup_cons.mp hn).1
    rw [List.filter_cons, List.filter_cons, ha]
    by_cases e : a = v
    · subst e
      rw [if_neg (fun z => hnot z.1)] at ih
      cases hp : P a with
      | true => simp [ih]
      | false => simp [ih]
    · have e1 : (a == v) = false := by simpa using e
      have e2 : (v ∈ a :: l ∧ P v = false) ↔ (v ∈ l ∧ P v = false) := by
        rw [List.mem_cons]
        constructor
        · rintro ⟨h1 | h1, h2⟩
          · exact absurd h1.symm e
          · exact ⟨h1, h2⟩
        · rintro ⟨h1, h2⟩
          exact ⟨.inr h1, h2⟩
      rw [e1, Bool.or_false]
      simp only [e2]
      cases hp : P a with
      | true => simp only [if_true, List.length_cons, ih]; omega
      | false => simp only [Bool.false_eq_true, if_false, ih]
/-- how many of 0 to 5 meet P -/
noncomputable def cnt (P : Nat → Bool) : Nat := ((List.range 6).filter P).length
theorem cnt_le (P : Nat → Bool) : cnt P ≤ 6 := List.length_filter_le _ _
theorem cnt_congr {P Q : Nat → Bool} (h : ∀ x, P x = Q x) : cnt P = cnt Q := by unfold cnt; rw [show P = Q from funext h]
theorem cnt_add {v : Nat} {P P' : Nat → Bool} (hv : v < 6) (h : ∀ x, P' x = (P x || x == v)) : cnt P' = cnt P + if P v = false then 1 else 0 := by
  unfold cnt
  rw [filt_add (v := v) (List.range 6) List.nodup_range (fun x _ => h x)]
  congr 1
  simp only [List.mem_range, hv, true_and]
theorem cnt_zero {P : Nat → Bool} (h : ∀ x, P x = false) : cnt P = 0 := by
  unfold cnt
  rw [List.filter_eq_nil_iff.mpr fun x _ z => by rw [h x] at z; cases z]; rfl
theorem cnt_split (P : Nat → Bool) (v : Nat) : cnt P = cnt (fun x => P x && decide (x < v)) + cnt (fun x => P x && decide (v ≤ x)) := by
  unfold cnt
  have : ∀ l : List Nat, (l.filter P).length = (l.filter fun x => P x && decide (x < v)).length + (l.filter fun x => P x && decide (v ≤ x)).length := fun l => by
    induction l with
    | nil => rfl
    | cons a l ih =>
      rw [List.filter_cons, List.filter_cons, List.filter_cons]
      by_cases h : a < v
      · rw [decide_eq_true h, decide_eq_false (show ¬ v ≤ a by omega)]
        cases P a <;> simp [ih] <;> omega
      · rw [decide_eq_false h, decide_eq_true (show v ≤ a by omega)]
        cases P a <;> simp [ih] <;> omega
  exact this _
theorem nums_append : ∀ (a b : List D) (k : Nat), nums k (a ++ b) = nums k a ++ nums (k + a.length) b
  | [], b, k => by simp [nums]
  | d :: a, b, k => by
    rw [List.cons_append, nums, nums_append a b (k + 1), nums, List.cons_append, List.length_cons]
    congr 3; omega
theorem anyStr (l : List Str) (a : Str) : ((dPs (l.map D.str)).any fun y => PyData.eqv y (dP (.str a))) = l.any fun y => y == a := by
  induction l with
  | nil => rfl
  | cons b r ih => simp only [List.map_cons, dPs, List.any_cons, ih]; rfl
theorem unlike_snoc (xs : List Str) (x : Str) : unlikeL ((xs ++ [x]).map D.str) = unlikeL (xs.map D.str) ++ if (xs.any fun y => y == x) = true then [] else [.str x] := by
  unfold unlikeL
  rw [List.map_append, nums_append, List.filter_append, List.map_append, List.map_singleton]
  congr 1
  · congr 1
    refine List.filter_congr fun e he => ?_
    obtain ⟨i, hi⟩ := List.mem_iff_getElem?.mp he
    obtain ⟨e', he', rfl⟩ := nums_get hi
    have hl : i < (xs.map D.str).length := (List.getElem?_eq_some_iff.mp he').1
    unfold newAt
    dsimp only
    rw [lsl_take, lsl_take, List.take_append_of_le_length (by omega)]
  · rw [nums, nums, List.filter_cons, List.filter_nil]
    have : newAt (xs.map D.str ++ [D.str x]) (.tup [.int ((0 + (xs.map D.str).length : Nat) : Int), .str x]) = !(xs.any fun y => y == x) := by
      unfold newAt
      dsimp only
      rw [lsl_take, Nat.zero_add, List.take_left, anyStr]
    rw [this]
    cases xs.any fun y => y == x <;> rfl
theorem dis_any (k : Str) : ∀ (m : Nat) (F : Nat → Str), (dis ((List.range m).map F)).any (· == k) = ((List.range m).map F).any (· == k)
  | 0, F => rfl
  | m + 1, F => by
    rw [List.range_succ, List.map_append, List.map_singleton, dis_snoc, step1_any, dis_any k m F, List.any_append]
    congr 1
    by_cases e : k = F m
    · subst e; simp
    · have : (F m == k) = false := by simpa [beq_iff_eq] using (fun h' : F m = k => e h'.symm)
      simp [this, e]
theorem unlike_dis : ∀ (m : Nat) (F : Nat → Str), unlikeL (((List.range m).map F).map D.str) = (dis ((List.range m).map F)).map D.str
  | 0, F => rfl
  | m + 1, F => by
    have ha := dis_any (F m) m F
    rw [List.range_succ, List.map_append, List.map_singleton, unlike_snoc, unlike_dis m F, dis_snoc, step1, ha]
    split <;> simp
theorem shorter_dis (m : Nat) (F : Nat → Str) (row : Str) : shorterN ((List.range m).map F) row = ((dis ((List.range m).map F)).filter fun x => decide (x.length < row.length)).length := by
  unfold shorterN
  rw [unlike_dis, List.length_map, List.filter_map, List.length_map]
  congr 1
  refine List.filter_congr fun x _ => ?_
  show decide ((x.length : Int) < row.length) = _
  refine decide_eq_decide.mpr ?_
  omega
/-- unlike texts are as many as unlike lengths -/
theorem dis_cnt {F : Nat → Str} {v : Nat → Nat} {q : Nat → Bool} (hv : ∀ j, (F j).length = v j) (h6 : ∀ j, v j < 6) (hinj : ∀ i j, v i = v j → F i = F j) : ∀ m, ((dis ((List.range m).map F)).filter fun x => q x.length).length = cnt fun x => (List.range m).any (fun j => v j == x) && q x
  | 0 => (cnt_zero fun x => rfl).symm
  | m + 1 => by
    have ih := dis_cnt (q := q) hv h6 hinj m
    have hany : (dis ((List.range m).map F)).any (· == F m) = (List.range m).any fun j => v j == v m := by
      rw [dis_any, List.any_map]
      congr 1
      funext j
      by_cases e : v j = v m
      · have := hinj _ _ e
        simp [e, this]
      · have e2 : F j ≠ F m := fun z => e (by rw [← hv j, ← hv m, z])
        show (F j == F m) = (v j == v m)
        rw [beq_eq_false_iff_ne.mpr e, beq_eq_false_iff_ne.mpr e2]
    rw [List.range_succ, List.map_append, List.map_singleton, dis_snoc]
    by_cases hq : q (v m) = true
    · rw [cnt_add (v := v m) (P := fun x => (List.range m).any (fun j => v j == x) && q x) (h6 m) (fun x => ?_), ← ih, step1, hany]
      · rw [hq, Bool.and_true]
        cases (List.range m).any fun j => v j == v m with
        | true => rfl
        | false => simp [hv, hq]
      · rw [List.any_append]
        by_cases e : v m = x
        · subst e; simp [hq]
        · have e2 : (x == v m) = false := by simpa using fun z : x = v m => e z.symm
          have e3 : (v m == x) = false := beq_eq_false_iff_ne.mpr e
          simp [e3, e2]
    · have : cnt (fun x => (List.range m ++ [m]).any (fun j => v j == x) && q x) = cnt (fun x => (List.range m).any (fun j => v j == x) && q x) := by
        refine cnt_congr fun x => ?_
        rw [List.any_append]
        by_cases e : v m = x
        · subst e; simp [hq]
        · have e3 : (v m == x) = false := beq_eq_false_iff_ne.mpr e
          simp [e3]
      rw [this, ← ih, step1]
      split
      · rfl
      · rw [List.filter_append, List.length_append]
        simp [hv, hq]
end
end Mine
end
section -- S73
open PySem PySem.W PyProof.Rows PySem.Calls PySem.Spec
set_option Elab.async false
set_option maxRecDepth 100000
set_option linter.unusedVariables false
set_option autoImplicit false
set_option pp.maxSteps 600
namespace Mine
section
variable {W : Wd} {f : Fd} {ρ ρ' : List Vr} {μ : Mu} {n : Nat}

theorem filt_le {p q : Nat → Bool} : ∀ (l : List Nat), (∀ x ∈ l, p x = true → q x = true) → (l.filter p).length ≤ (l.filter q).length ∧ ((l.filter p).length = (l.filter q).length → ∀ x ∈ l, p x = q x)
  | [], _ => ⟨Nat.le_refl _, fun _ x hx => by cases hx⟩
  | a :: l, h => by
    obtain ⟨i1, i2⟩ := filt_le l fun x hx => h x (List.mem_cons_of_mem _ hx)
    have ha := h a List.mem_cons_self
    rw [List.filter_cons, List.filter_cons]
    cases hp : p a with
    | true =>
      rw [ha hp]
      simp only [if_true, List.length_cons]
      refine ⟨by omega, fun e x hx => ?_⟩
      rcases List.mem_cons.mp hx with rfl | hx
      · rw [hp, ha hp]
      · exact i2 (by omega) x hx
    | false =>
      cases hq : q a with
      | true =>
        simp only [if_true, Bool.false_eq_true, if_false, List.length_cons]
        exact ⟨by omega, fun e => by omega⟩
      | false =>
        simp only [Bool.false_eq_true, if_false]
        refine ⟨i1, fun e x hx => ?_⟩
        rcases List.mem_cons.mp hx with rfl | hx
        · rw [hp, hq]
        · exact i2 e x hx
section
variable (s e : Nat → Int)
/-- how many ended by t, how many begin from t on -/
noncomputable def cE (t : Int) : Nat := ((List.range 5).filter fun i => decide (e i ≤ t)).length
noncomputable def dS (t : Int) : Nat := ((List.range 5).filter fun j => decide (t ≤ s j)).length
variable {s e}
theorem cE_le (t : Int) : cE e t ≤ 5 := List.length_filter_le _ _
theorem dS_le (t : Int) : dS s t ≤ 5 := List.length_filter_le _ _
theorem cE_sub {t u : Int} (h : t ≤ u) : ∀ x ∈ List.range 5, decide (e x ≤ t) = true → decide (e x ≤ u) = true := fun x _ z => decide_eq_true (Int.le_trans (of_decide_eq_true z) h)
theorem dS_sub {t u : Int} (h : t ≤ u) : ∀ x ∈ List.range 5, decide (u ≤ s x) = true → decide (t ≤ s x) = true := fun x _ z => decide_eq_true (Int.le_trans h (of_decide_eq_true z))
theorem cE_mono {t u : Int} (h : t ≤ u) : cE e t ≤ cE e u := (filt_le _ (cE_sub h)).1
theorem dS_mono {t u : Int} (h : t ≤ u) : dS s u ≤ dS s t := (filt_le _ (dS_sub h)).1
theorem cE_lt {t u : Int} {i : Nat} (hi : i < 5) (h1 : t < e i) (h2 : e i ≤ u) : cE e t < cE e u := by
  have h := cE_mono (e := e) (show t ≤ u by omega)
  rcases Nat.lt_or_ge (cE e t) (cE e u) with h' | h'
  · exact h'
  · have := (filt_le _ (cE_sub (e := e) (show t ≤ u by omega))).2 (Nat.le_antisymm h h') i (List.mem_range.mpr hi)
    rw [decide_eq_true h2, decide_eq_false (by omega)] at this; cases this
theorem dS_lt {t u : Int} {i : Nat} (hi : i < 5) (h1 : t ≤ s i) (h2 : s i < u) : dS s u < dS s t := by
  have h := dS_mono (s := s) (show t ≤ u by omega)
  rcases Nat.lt_or_ge (dS s u) (dS s t) with h' | h'
  · exact h'
  · have := (filt_le _ (dS_sub (s := s) (show t ≤ u by omega))).2 (Nat.le_antisymm h h') i (List.mem_range.mpr hi)
    rw [decide_eq_true h1, decide_eq_false (by omega)] at this; cases this
theorem cE_eq {t : Int} (h : ¬ ∃ i, i < 5 ∧ e i = t + 1) : cE e (t + 1) = cE e t := by
  unfold cE
  congr 1
  refine List.filter_congr fun i hi => decide_eq_decide.mpr ?_
  have : e i ≠ t + 1 := fun z => h ⟨i, List.mem_range.mp hi, z⟩
  omega
theorem dS_eq {t : Int} (h : ¬ ∃ i, i < 5 ∧ s i = t) : dS s (t + 1) = dS s t := by
  unfold dS
  congr 1
  refine List.filter_congr fun i hi => decide_eq_decide.mpr ?_
  have : s i ≠ t := fun z => h ⟨i, List.mem_range.mp hi, z⟩
  omega
variable (s e)
noncomputable def pC (r : Int) (x : Nat) : Bool := (List.range 5).any fun j => decide (s j < r) && (cE e (s j) == x)
noncomputable def pD (r : Int) (x : Nat) : Bool := (List.range 5).any fun j => decide (e j ≤ r) && (dS s (e j) == x)
variable {s e}
theorem pC_iff {r : Int} {x : Nat} : pC s e r x = true ↔ ∃ j, j < 5 ∧ s j < r ∧ cE e (s j) = x := by
  unfold pC
  simp only [List.any_eq_true, List.mem_range, Bool.and_eq_true, decide_eq_true_eq, beq_iff_eq]
theorem pD_iff {r : Int} {x : Nat} : pD s e r x = true ↔ ∃ j, j < 5 ∧ e j ≤ r ∧ dS s (e j) = x := by
  unfold pD
  simp only [List.any_eq_true, List.mem_range, Bool.and_eq_true, decide_eq_true_eq, beq_iff_eq]
/-- what holds ahead of row r -/
structure IV (s e : Nat → Int) (r : Int) (rk : Nat) (ed : Bool) : Prop where
  a1 : ed = true ↔ ∃ j, j < 5 ∧ e j ≤ r ∧ dS s (e j) = dS s r
  a2 : cnt (pD s e r) = rk + if ed = true then 1 else 0
  a3 : (∃ j, j < 5 ∧ s j < r) → cnt (pC s e r) = rk + 1
  a0 : (¬ ∃ j, j < 5 ∧ s j < r) → rk = 0 ∧ ed = false
  a4 : (∃ j, j < 5 ∧ s j < r) → (ed = true ↔ ∀ j, j < 5 → s j < r → cE e (s j) < cE e r)
theorem iv_step {r : Int} {rk rk' : Nat} {ed ed' ed2 : Bool} (h0 : ∀ j, j < 5 → s j < e j)
    (hT : ((∃ j, j < 5 ∧ s j = r) ∧ ed = true ∧ rk' = rk + 1 ∧ ed' = false) ∨ (((¬ ∃ j, j < 5 ∧ s j = r) ∨ ed = false) ∧ rk' = rk ∧ ed' = ed))
    (hE : ed2 = true ↔ ed' = true ∨ ∃ j, j < 5 ∧ e j = r + 1) (I : IV s e r rk ed) :
    IV s e (r + 1) rk' ed2 ∧ ((∃ j, j < 5 ∧ s j = r) → cnt (pC s e (r + 1)) = rk' + 1) ∧ ((∃ j, j < 5 ∧ e j = r + 1) → cnt (pD s e (r + 1)) = rk' + 1) := by
  have hsum : (rk' + if ed' = true then 1 else 0) = rk + if ed = true then 1 else 0 := by
    rcases hT with ⟨_, h1, h2, h3⟩ | ⟨_, h2, h3⟩
    · rw [h1, h2, h3]; rfl
    · rw [h2, h3]
  -- behind the top of the row
  have t1 : ed' = true ↔ ∃ j, j < 5 ∧ e j ≤ r ∧ dS s (e j) = dS s (r + 1) := by
    by_cases hS : ∃ j, j < 5 ∧ s j = r
    · have hf : ed' = false := by
        rcases hT with ⟨_, _, _, h3⟩ | ⟨h | h, _, h3⟩
        · exact h3
        · exact absurd hS h
        · rw [h3, h]
      obtain ⟨i, hi, hsi⟩ := hS
      have hlt : dS s (r + 1) < dS s r := dS_lt hi (by omega) (by omega)
      constructor
      · intro z; rw [hf] at z; cases z
      · rintro ⟨j, hj, h1, h2⟩
        have := dS_mono (s := s) h1
        omega
    · have he : ed' = ed := by
        rcases hT with ⟨h, _⟩ | ⟨_, _, h3⟩
        · exact absurd h hS
        · exact h3
      rw [he, dS_eq hS]; exact I.a1
  have hD : cnt (pD s e (r + 1)) = if (∃ j, j < 5 ∧ e j = r + 1) then rk' + 1 else rk' + if ed' = true then 1 else 0 := by
    by_cases hE' : ∃ j, j < 5 ∧ e j = r + 1
    · rw [if_pos hE']
      obtain ⟨i, hi, hei⟩ := hE'
      rw [cnt_add (v := dS s (r + 1)) (P := pD s e r) (Nat.lt_succ_of_le (dS_le _)) (fun x => ?_), I.a2, ← hsum]
      · have : pD s e r (dS s (r + 1)) = ed' := by
          rw [Bool.eq_iff_iff, pD_iff]; exact t1.symm
        rw [this]
        cases ed' <;> simp
      · rw [Bool.eq_iff_iff, Bool.or_eq_true, pD_iff, pD_iff, beq_iff_eq]
        constructor
        · rintro ⟨j, hj, h1, h2⟩
          by_cases h3 : e j ≤ r
          · exact .inl ⟨j, hj, h3, h2⟩
          · have : e j = r + 1 := by omega
            exact .inr (by rw [← h2, this])
        · rintro (⟨j, hj, h1, h2⟩ | h)
          · exact ⟨j, hj, by omega, h2⟩
          · exact ⟨i, hi, by omega, by rw [hei, h]⟩
    · rw [if_neg hE', hsum, ← I.a2]
      refine cnt_congr fun x => ?_
      rw [Bool.eq_iff_iff, pD_iff, pD_iff]
      constructor
      · rintro ⟨j, hj, h1, h2⟩
        have : e j ≠ r + 1 := fun z => hE' ⟨j, hj, z⟩
        exact ⟨j, hj, by omega, h2⟩
      · rintro ⟨j, hj, h1, h2⟩
        exact ⟨j, hj, by omega, h2⟩
  have hC : (∃ j, j < 5 ∧ s j < r + 1) → cnt (pC s e (r + 1)) = rk' + 1 := by
    intro hx
    by_cases hS : ∃ j, j < 5 ∧ s j = r
    · obtain ⟨i, hi, hsi⟩ := id hS
      have hp : ∀ x, pC s e (r + 1) x = (pC s e r x || x == cE e r) := fun x => by
        rw [Bool.eq_iff_iff, Bool.or_eq_true, pC_iff, pC_iff, beq_iff_eq]
        constructor
        · rintro ⟨j, hj, h1, h2⟩
          by_cases h3 : s j < r
          · exact .inl ⟨j, hj, h3, h2⟩
          · have : s j = r := by omega
            exact .inr (by rw [← h2, this])
        · rintro (⟨j, hj, h1, h2⟩ | h)
          · exact ⟨j, hj, by omega, h2⟩
          · exact ⟨i, hi, by omega, by rw [hsi, h]⟩
      rw [cnt_add (v := cE e r) (P := pC s e r) (Nat.lt_succ_of_le (cE_le _)) hp]
      by_cases hB : ∃ j, j < 5 ∧ s j < r
      · rw [I.a3 hB]
        have a4 := I.a4 hB
        cases hed : ed with
        | true =>
          have hall := a4.mp hed
          have hf : pC s e r (cE e r) = false := by
            cases h : pC s e r (cE e r) with
            | false => rfl
            | true =>
              obtain ⟨j, hj, h1, h2⟩ := pC_iff.mp h
              have := hall j hj h1
              omega
          rw [hf]
          rcases hT with ⟨_, _, h2, _⟩ | ⟨h | h, _, _⟩
          · rw [h2]; rfl
          · exact absurd hS h
          · rw [h] at hed; cases hed
        | false =>
          have hrk : rk' = rk := by
            rcases hT with ⟨_, h1, _, _⟩ | ⟨_, h2, _⟩
            · rw [h1] at hed; cases hed
            · exact h2
          have ht : pC s e r (cE e r) = true := by
            cases h : pC s e r (cE e r) with
            | true => rfl
            | false =>
              have : ed = true := a4.mpr fun j hj h1 => by
                have hm := cE_mono (e := e) (show s j ≤ r by omega)
                rcases Nat.lt_or_ge (cE e (s j)) (cE e r) with h' | h'
                · exact h'
                · have := pC_iff.mpr ⟨j, hj, h1, Nat.le_antisymm hm h'⟩
                  rw [h] at this; cases this
              rw [this] at hed; cases hed
          rw [ht, hrk]; rfl
      · obtain ⟨z1, z2⟩ := I.a0 hB
        have hrk : rk' = 0 := by
          rcases hT with ⟨_, h1, _, _⟩ | ⟨_, h2, _⟩
          · rw [z2] at h1; cases h1
          · rw [h2, z1]
        have hf : ∀ x, pC s e r x = false := fun x => by
          cases h : pC s e r x with
          | false => rfl
          | true =>
            obtain ⟨j, hj, h1, _⟩ := pC_iff.mp h
            exact absurd ⟨j, hj, h1⟩ hB
        rw [cnt_zero hf, hf, hrk]; rfl
    · have hB : ∃ j, j < 5 ∧ s j < r := by
        obtain ⟨j, hj, h1⟩ := hx
        have : s j ≠ r := fun z => hS ⟨j, hj, z⟩
        exact ⟨j, hj, by omega⟩
      have hrk : rk' = rk := by
        rcases hT with ⟨h, _⟩ | ⟨_, h2, _⟩
        · exact absurd h hS
        · exact h2
      rw [hrk, ← I.a3 hB]
      refine cnt_congr fun x => ?_
      rw [Bool.eq_iff_iff, pC_iff, pC_iff]
      constructor
      · rintro ⟨j, hj, h1, h2⟩
        have : s j ≠ r := fun z => hS ⟨j, hj, z⟩
        exact ⟨j, hj, by omega, h2⟩
      · rintro ⟨j, hj, h1, h2⟩
        exact ⟨j, hj, by omega, h2⟩
  refine ⟨⟨?_, ?_, hC, ?_, ?_⟩, fun hS => ?_, fun hE' => ?_⟩
  · rw [hE, t1]
    constructor
    · rintro (⟨j, hj, h1, h2⟩ | ⟨j, hj, h1⟩)
      · exact ⟨j, hj, by omega, h2⟩
      · exact ⟨j, hj, by omega, by rw [h1]⟩
    · rintro ⟨j, hj, h1, h2⟩
      by_cases h3 : e j ≤ r
      · exact .inl ⟨j, hj, h3, h2⟩
      · exact .inr ⟨j, hj, by omega⟩
  · rw [hD]
    by_cases hE' : ∃ j, j < 5 ∧ e j = r + 1
    · rw [if_pos hE', if_pos (hE.mpr (.inr hE'))]
    · rw [if_neg hE']
      have : ed2 = ed' := by
        rw [Bool.eq_iff_iff, hE]
        exact ⟨fun z => z.elim id fun z => absurd z hE', .inl⟩
      rw [this]
  · intro hx
    have hS : ¬ ∃ j, j < 5 ∧ s j = r := fun ⟨j, hj, z⟩ => hx ⟨j, hj, by omega⟩
    have hB : ¬ ∃ j, j < 5 ∧ s j < r := fun ⟨j, hj, z⟩ => hx ⟨j, hj, by omega⟩
    have hE' : ¬ ∃ j, j < 5 ∧ e j = r + 1 := fun ⟨j, hj, z⟩ => hx ⟨j, hj, by have := h0 j hj; omega⟩
    obtain ⟨z1, z2⟩ := I.a0 hB
    rcases hT with ⟨h, _⟩ | ⟨_, h2, h3⟩
    · exact absurd h hS
    · refine ⟨by rw [h2, z1], ?_⟩
      cases h : ed2 with
      | false => rfl
      | true =>
        rcases hE.mp h with h | h
        · rw [h3, z2] at h; cases h
        · exact absurd h hE'
  · intro hx
    by_cases hE' : ∃ j, j < 5 ∧ e j = r + 1
    · refine ⟨fun _ j hj h1 => ?_, fun _ => hE.mpr (.inr hE')⟩
      obtain ⟨i, hi, hei⟩ := hE'
      have h1' := cE_lt (e := e) (t := r) (u := r + 1) hi (by omega) (by omega)
      have h2' := cE_mono (e := e) (show s j ≤ r by omega)
      omega
    · have hed : ed2 = true ↔ ed' = true := by
        rw [hE]; exact ⟨fun z => z.elim id fun z => absurd z hE', .inl⟩
      rw [hed, cE_eq hE']
      by_cases hS : ∃ j, j < 5 ∧ s j = r
      · have hf : ed' = false := by
          rcases hT with ⟨_, _, _, h3⟩ | ⟨h | h, _, h3⟩
          · exact h3
          · exact absurd hS h
          · rw [h3, h]
        obtain ⟨i, hi, hsi⟩ := hS
        constructor
        · intro z; rw [hf] at z; cases z
        · intro z
          have := z i hi (by omega)
          rw [hsi] at this; omega
      · have hB : ∃ j, j < 5 ∧ s j < r := by
          obtain ⟨j, hj, h1⟩ := hx
          have : s j ≠ r := fun z => hS ⟨j, hj, z⟩
          exact ⟨j, hj, by omega⟩
        have he : ed' = ed := by
          rcases hT with ⟨h, _⟩ | ⟨_, _, h3⟩
          · exact absurd h hS
          · exact h3
        rw [he, I.a4 hB]
        constructor
        · intro z j hj h1
          have : s j ≠ r := fun z => hS ⟨j, hj, z⟩
          exact z j hj (by omega)
        · intro z j hj h1
          exact z j hj (by omega)
  · obtain ⟨j, hj, z⟩ := hS
    exact hC ⟨j, hj, by omega⟩
  · rw [hD, if_pos hE']
end
end
end Mine
end
section -- S74
open PySem PySem.W PyProof.Rows PySem.Calls PySem.Spec
set_option Elab.async false
set_option maxRecDepth 100000
set_option linter.unusedVariables false
set_option autoImplicit false
set_option pp.maxSteps 600
namespace Mine
section
variable {W : Wd} {f : Fd} {ρ ρ' : List Vr} {μ : Mu} {n : Nat}

theorem nest_get {l : LL} {k i j i' : Nat} {v : Int} (hk : k < l.length) (hi : i < (l.getD k []).length) : ((l.set k ((l.getD k []).set i v)).getD j []).getD i' 0 = if j = k ∧ i' = i then v else (l.getD j []).getD i' 0 := by
  rw [List.getD_eq_getElem?_getD (l := l.set k _), List.getElem?_set]
  by_cases h : k = j
  · subst h
    rw [if_pos rfl, if_pos hk]
    simp only [Option.getD_some, true_and]
    rw [List.getD_eq_getElem?_getD (l := (l.getD k []).set i v), List.getElem?_set]
    by_cases h2 : i = i'
    · subst h2
      rw [if_pos rfl, if_pos hi, if_pos rfl]; rfl
    · rw [if_neg h2, if_neg (fun z => h2 z.symm), List.getD_eq_getElem?_getD (l := l.getD k [])]
  · rw [if_neg h, if_neg (fun z => h z.1.symm), ← List.getD_eq_getElem?_getD]
theorem pin_at {st en : List Int} {r rk : Nat} {a : Bool × LL} (hs : Sh a.2) : ∀ k, k ≤ 5 →
    ((pInAt st en r rk a k).1 = true ↔ a.1 = true ∨ ∃ j, j < k ∧ en.getD j 0 = (r : Int) + 1) ∧
    (∀ j, j < 5 → ((pInAt st en r rk a k).2.getD j []).getD 0 0 = if j < k ∧ st.getD j 0 = (r : Int) then (rk : Int) else (a.2.getD j []).getD 0 0) ∧
    (∀ j, j < 5 → ((pInAt st en r rk a k).2.getD j []).getD 1 0 = if j < k ∧ en.getD j 0 = (r : Int) + 1 then (rk : Int) else (a.2.getD j []).getD 1 0)
  | 0, _ => ⟨⟨fun z => .inl z, fun z => z.elim id fun ⟨j, hj, _⟩ => absurd hj (Nat.not_lt_zero j)⟩, fun j _ => by rw [if_neg fun z => absurd z.1 (Nat.not_lt_zero j)]; rfl, fun j _ => by rw [if_neg fun z => absurd z.1 (Nat.not_lt_zero j)]; rfl⟩
  | k + 1, hk => by
    obtain ⟨h1, h2, h3⟩ := pin_at (st := st) (en := en) (r := r) (rk := rk) hs k (by omega)
    have hb : Sh (pInAt st en r rk a k).2 := Sh.pInAt hs (by omega)
    rw [pInAt]
    generalize pInAt st en r rk a k = b at h1 h2 h3 hb ⊢
    obtain ⟨ed, l⟩ := b
    dsimp only at h1 h2 h3 hb
    have hk5 : k < 5 := by omega
    have hkl : k < l.length := by rw [hb.1]; exact hk5
    have hg := hb.get hk5
    unfold pIn
    dsimp only
    have q : ∀ j i', ((if st.getD k 0 = (r : Int) then l.set k ((l.getD k []).set 0 (rk : Int)) else l).getD j []).getD i' 0 = if st.getD k 0 = (r : Int) ∧ j = k ∧ i' = 0 then (rk : Int) else (l.getD j []).getD i' 0 := fun j i' => by
      by_cases h : st.getD k 0 = (r : Int)
      · rw [if_pos h, nest_get hkl (by rw [hg.2]; decide)]
        simp only [h, true_and]
      · rw [if_neg h, if_neg fun z => h z.1]
    have hb1 : Sh (if st.getD k 0 = (r : Int) then l.set k ((l.getD k []).set 0 (rk : Int)) else l) := hb.pIn1 hk5
    generalize (if st.getD k 0 = (r : Int) then l.set k ((l.getD k []).set 0 (rk : Int)) else l) = l1 at q hb1 ⊢
    have hk1 : k < l1.length := by rw [hb1.1]; exact hk5
    have hg1 := hb1.get hk5
    have last : ∀ {P : Nat → Prop}, (∃ j, j < k + 1 ∧ P j) ↔ (∃ j, j < k ∧ P j) ∨ P k := fun {P} => by
      constructor
      · rintro ⟨j, hj, hp⟩
        by_cases h : j = k
        · subst h; exact .inr hp
        · exact .inl ⟨j, by omega, hp⟩
      · rintro (⟨j, hj, hp⟩ | hp)
        · exact ⟨j, by omega, hp⟩
        · exact ⟨k, by omega, hp⟩
    have low : ∀ j, j < 5 → (l1.getD j []).getD 0 0 = if j < k + 1 ∧ st.getD j 0 = (r : Int) then (rk : Int) else (a.2.getD j []).getD 0 0 := fun j hj => by
      rw [q, h2 j hj]
      by_cases e : j = k
      · subst e
        by_cases h : st.getD j 0 = (r : Int)
        · rw [if_pos ⟨h, rfl, rfl⟩, if_pos ⟨by omega, h⟩]
        · rw [if_neg fun z => h z.1, if_neg fun z => h z.2, if_neg fun z => h z.2]
      · rw [if_neg fun z => e z.2.1]
        have : j < k + 1 ∧ st.getD j 0 = (r : Int) ↔ j < k ∧ st.getD j 0 = (r : Int) := ⟨fun z => ⟨by omega, z.2⟩, fun z => ⟨by omega, z.2⟩⟩
        simp only [this]
    have high : ∀ j, j < 5 → (l1.getD j []).getD 1 0 = if j < k ∧ en.getD j 0 = (r : Int) + 1 then (rk : Int) else (a.2.getD j []).getD 1 0 := fun j hj => by
      rw [q, if_neg (fun z => by cases z.2.2), h3 j hj]
    by_cases he : en.getD k 0 = (r : Int) + 1
    · rw [if_pos he]
      dsimp only
      refine ⟨?_, fun j hj => ?_, fun j hj => ?_⟩
      · rw [last]
        exact ⟨fun _ => .inr (.inr he), fun _ => rfl⟩
      · rw [nest_get hk1 (by rw [hg1.2]; decide), if_neg (fun z => by cases z.2), low j hj]
      · rw [nest_get hk1 (by rw [hg1.2]; decide), high j hj]
        by_cases e : j = k
        · subst e
          rw [if_pos ⟨rfl, rfl⟩, if_pos ⟨by omega, he⟩]
        · rw [if_neg fun z => e z.1]
          have : j < k + 1 ∧ en.getD j 0 = (r : Int) + 1 ↔ j < k ∧ en.getD j 0 = (r : Int) + 1 := ⟨fun z => ⟨by omega, z.2⟩, fun z => ⟨by omega, z.2⟩⟩
          simp only [this]
    · rw [if_neg he]
      dsimp only
      refine ⟨?_, fun j hj => low j hj, fun j hj => ?_⟩
      · rw [last, h1]
        exact ⟨fun z => z.elim .inl fun z => .inr (.inl z), fun z => z.elim .inl fun z => z.elim .inr fun z => absurd z he⟩
      · rw [high j hj]
        by_cases e : j = k
        · subst e
          rw [if_neg fun z => he z.2, if_neg fun z => he z.2]
        · have : j < k + 1 ∧ en.getD j 0 = (r : Int) + 1 ↔ j < k ∧ en.getD j 0 = (r : Int) + 1 := ⟨fun z => ⟨by omega, z.2⟩, fun z => ⟨by omega, z.2⟩⟩
          simp only [this]
theorem any_st {st : List Int} {r : Nat} (hl : st.length = 5) : (st.any fun y => y == (r : Int)) = true ↔ ∃ j, j < 5 ∧ st.getD j 0 = (r : Int) := by
  rw [List.any_eq_true]
  constructor
  · rintro ⟨y, hy, h⟩
    obtain ⟨j, hj⟩ := List.mem_iff_getElem?.mp hy
    have hlt := (List.getElem?_eq_some_iff.mp hj).1
    exact ⟨j, by omega, by rw [List.getD_eq_getElem?_getD, hj]; exact eq_of_beq h⟩
  · rintro ⟨j, hj, h⟩
    have hlt : j < st.length := by omega
    refine ⟨st.getD j 0, ?_, by rw [h]; simp⟩
    rw [List.getD_eq_getElem?_getD, List.getElem?_eq_getElem hlt]
    exact List.getElem_mem hlt
/-- what holds ahead of row r, the page's ranges too -/
structure RowI (st en : List Int) (r : Nat) : Prop where
  iv : IV (fun k => st.getD k 0) (fun k => en.getD k 0) r (pAt st en r).1 (pAt st en r).2.1
  p0 : ∀ k, k < 5 → st.getD k 0 < r → ∃ m : Nat, (((pAt st en r).2.2).getD k []).getD 0 0 = m ∧ cnt (pC (fun k => st.getD k 0) (fun k => en.getD k 0) (st.getD k 0 + 1)) = m + 1 ∧ m ≤ (pAt st en r).1
  p1 : ∀ k, k < 5 → en.getD k 0 ≤ r → ∃ m : Nat, (((pAt st en r).2.2).getD k []).getD 1 0 = m ∧ cnt (pD (fun k => st.getD k 0) (fun k => en.getD k 0) (en.getD k 0)) = m + 1 ∧ (((pAt st en r).2.2).getD k []).getD 0 0 ≤ (m : Int)
theorem row_step {st en : List Int} {r : Nat} (hl : st.length = 5) (h0 : ∀ j, j < 5 → st.getD j 0 < en.getD j 0) (R : RowI st en r) : RowI st en (r + 1) := by
  have hsh := Sh.pAt (st := st) (en := en) r
  obtain ⟨iv, p0, p1⟩ := R
  have hrow : pAt st en (r + 1) = pRow st en r (pAt st en r) := rfl
  generalize pAt st en r = a at hsh iv p0 p1 hrow
  obtain ⟨rk, ed, ll⟩ := a
  dsimp only [pRow] at hsh iv p0 p1 hrow
  have hT : ((∃ j, j < 5 ∧ st.getD j 0 = (r : Int)) ∧ ed = true ∧ (pTop st r (rk, ed)).1 = rk + 1 ∧ (pTop st r (rk, ed)).2 = false) ∨ (((¬ ∃ j, j < 5 ∧ st.getD j 0 = (r : Int)) ∨ ed = false) ∧ (pTop st r (rk, ed)).1 = rk ∧ (pTop st r (rk, ed)).2 = ed) := by
    unfold pTop
    dsimp only
    by_cases h : (ed && st.any fun y => y == (r : Int)) = true
    · rw [if_pos h]
      rw [Bool.and_eq_true, any_st hl] at h
      exact .inl ⟨h.2, h.1, rfl, rfl⟩
    · rw [if_neg h]
      rw [Bool.and_eq_true, any_st hl] at h
      refine .inr ⟨?_, rfl, rfl⟩
      cases ed with
      | false => exact .inr rfl
      | true => exact .inl fun z => h ⟨rfl, z⟩
  have hle : rk ≤ (pTop st r (rk, ed)).1 := by
    rcases hT with ⟨_, _, h, _⟩ | ⟨_, h, _⟩ <;> omega
  generalize pTop st r (rk, ed) = t at hT hle hrow
  obtain ⟨rk', ed'⟩ := t
  dsimp only at hT hle hrow
  obtain ⟨i1, i2, i3⟩ := pin_at (st := st) (en := en) (r := r) (rk := rk') (a := (ed', ll)) hsh 5 (Nat.le_refl _)
  generalize pInAt st en r rk' (ed', ll) 5 = b at i1 i2 i3 hrow
  obtain ⟨ed2, l2⟩ := b
  dsimp only at i1 i2 i3 hrow
  obtain ⟨iv2, sC, sD⟩ := iv_step (s := fun k => st.getD k 0) (e := fun k => en.getD k 0) h0 hT i1 iv
  have hr1 : (((r + 1 : Nat) : Int)) = (r : Int) + 1 := rfl
  refine ⟨?_, fun k hk hs => ?_, fun k hk he => ?_⟩
  · rw [hrow]; exact iv2
  · rw [hrow]
    dsimp only
    rw [i2 k hk]
    by_cases e : st.getD k 0 = (r : Int)
    · rw [if_pos ⟨hk, e⟩]
      refine ⟨rk', rfl, ?_, Nat.le_refl _⟩
      rw [e]; exact sC ⟨k, hk, e⟩
    · rw [if_neg fun z => e z.2]
      obtain ⟨m, m1, m2, m3⟩ := p0 k hk (by omega)
      exact ⟨m, m1, m2, Nat.le_trans m3 hle⟩
  · rw [hrow]
    dsimp only
    rw [i3 k hk, i2 k hk]
    have h0k := h0 k hk
    by_cases e : en.getD k 0 = (r : Int) + 1
    · rw [if_pos ⟨hk, e⟩]
      refine ⟨rk', rfl, ?_, ?_⟩
      · rw [e]; exact sD ⟨k, hk, e⟩
      · by_cases e2 : st.getD k 0 = (r : Int)
        · rw [if_pos ⟨hk, e2⟩]; exact Int.le_refl _
        · rw [if_neg fun z => e2 z.2]
          obtain ⟨m, m1, m2, m3⟩ := p0 k hk (by omega)
          rw [m1]; omega
    · rw [if_neg fun z => e z.2, if_neg fun z => by omega]
      exact p1 k hk (by omega)
theorem row_zero {st en : List Int} (hs : ∀ j, j < 5 → 0 ≤ st.getD j 0) (h0 : ∀ j, j < 5 → st.getD j 0 < en.getD j 0) : RowI st en 0 := by
  have z1 : ¬ ∃ j, j < 5 ∧ st.getD j 0 < ((0 : Nat) : Int) := fun ⟨j, hj, h⟩ => by have := hs j hj; omega
  have z2 : ∀ j, j < 5 → ¬ en.getD j 0 ≤ ((0 : Nat) : Int) := fun j hj h => by have := hs j hj; have := h0 j hj; omega
  refine ⟨⟨⟨fun z => (by cases z), fun ⟨j, hj, h, _⟩ => absurd h (z2 j hj)⟩, ?_, fun z => absurd z z1, fun _ => ⟨rfl, rfl⟩, fun z => absurd z z1⟩, fun k hk h => absurd ⟨k, hk, h⟩ z1, fun k hk h => absurd h (z2 k hk)⟩
  refine cnt_zero fun x => ?_
  cases h : pD (fun k => st.getD k 0) (fun k => en.getD k 0) ((0 : Nat) : Int) x with
  | false => rfl
  | true =>
    obtain ⟨j, hj, h1, _⟩ := pD_iff.mp h
    exact absurd h1 (z2 j hj)
theorem row_all {st en : List Int} (hl : st.length = 5) (hs : ∀ j, j < 5 → 0 ≤ st.getD j 0) (h0 : ∀ j, j < 5 → st.getD j 0 < en.getD j 0) : ∀ r, RowI st en r
  | 0 => row_zero hs h0
  | r + 1 => row_step hl h0 (row_all hl hs h0 r)
theorem past_v (st en : List Int) (k : Nat) : (pastS st en k).length = cE (fun k => en.getD k 0) (st.getD k 0) := by rw [pastS, join_len]; rfl
theorem fut_v (st en : List Int) (k : Nat) : (futS st en k).length = dS (fun k => st.getD k 0) (en.getD k 0) := by rw [futS, join_len]; rfl
theorem past_inj {st en : List Int} (i j : Nat) (h : cE (fun k => en.getD k 0) (st.getD i 0) = cE (fun k => en.getD k 0) (st.getD j 0)) : pastS st en i = pastS st en j := by
  unfold pastS
  have : dueL st en i = dueL st en j := by
    unfold dueL
    rcases Int.le_total (st.getD i 0) (st.getD j 0) with h' | h'
    · exact List.filter_congr ((filt_le _ (cE_sub (e := fun k => en.getD k 0) h')).2 h)
    · exact (List.filter_congr ((filt_le _ (cE_sub (e := fun k => en.getD k 0) h')).2 h.symm)).symm
  rw [this]
theorem fut_inj {st en : List Int} (i j : Nat) (h : dS (fun k => st.getD k 0) (en.getD i 0) = dS (fun k => st.getD k 0) (en.getD j 0)) : futS st en i = futS st en j := by
  unfold futS
  have : futL st en i = futL st en j := by
    unfold futL
    rcases Int.le_total (en.getD i 0) (en.getD j 0) with h' | h'
    · exact (List.filter_congr ((filt_le _ (dS_sub (s := fun k => st.getD k 0) h')).2 h.symm)).symm
    · exact List.filter_congr ((filt_le _ (dS_sub (s := fun k => st.getD k 0) h')).2 h)
  rw [this]
theorem pressF {bg : Int} {st en wy : List Int} (G : Good bg st en wy) : PressF st en := by
  have R := row_all G.lst G.st0 G.en0 8
  have lo : ∀ k, k < 5 → ∃ m : Nat, pr0 st en k = m ∧ shorterN (pasts5 st en) (pastS st en k) = m := fun k hk => by
    have h1 := G.st1 k hk
    obtain ⟨m, m1, m2, _⟩ := R.p0 k hk (by omega)
    refine ⟨m, m1, ?_⟩
    unfold pasts5
    rw [shorter_dis, dis_cnt (v := fun j => cE (fun k => en.getD k 0) (st.getD j 0)) (q := fun n => decide (n < (pastS st en k).length)) (past_v st en) (fun j => Nat.lt_succ_of_le (cE_le _)) past_inj, past_v]
    have := cnt_add (v := cE (fun k => en.getD k 0) (st.getD k 0)) (P := fun x => ((List.range 5).any fun j => cE (fun k => en.getD k 0) (st.getD j 0) == x) && decide (x < cE (fun k => en.getD k 0) (st.getD k 0))) (P' := pC (fun k => st.getD k 0) (fun k => en.getD k 0) (st.getD k 0 + 1)) (Nat.lt_succ_of_le (cE_le _)) (fun x => ?_)
    · rw [m2, if_pos (by rw [decide_eq_false (Nat.lt_irrefl _), Bool.and_false])] at this
      omega
    · rw [Bool.eq_iff_iff, Bool.or_eq_true, pC_iff, Bool.and_eq_true, List.any_eq_true, beq_iff_eq, decide_eq_true_eq]
      constructor
      · rintro ⟨j, hj, h1, h2⟩
        have hm := cE_mono (e := fun k => en.getD k 0) (show st.getD j 0 ≤ st.getD k 0 by omega)
        by_cases e : x = cE (fun k => en.getD k 0) (st.getD k 0)
        · exact .inr e
        · exact .inl ⟨⟨j, List.mem_range.mpr hj, beq_iff_eq.mpr h2⟩, by omega⟩
      · rintro (⟨⟨j, hj, h1⟩, h2⟩ | h)
        · have h1' := eq_of_beq h1
          refine ⟨j, List.mem_range.mp hj, ?_, h1'⟩
          rcases Int.lt_or_le (st.getD j 0) (st.getD k 0 + 1) with h' | h'
          · exact h'
          · have := cE_mono (e := fun k => en.getD k 0) (show st.getD k 0 ≤ st.getD j 0 by omega)
            omega
        · exact ⟨k, hk, by omega, h.symm⟩
  have hi : ∀ k, k < 5 → ∃ m : Nat, pr1 st en k = m ∧ (dis (futs5 st en)).length = shorterN (futs5 st en) (futS st en k) + (m + 1) ∧ pr0 st en k ≤ (m : Int) ∧ m ≤ 5 := fun k hk => by
    have h1 := G.st1 k hk
    have h2 := G.en1 k hk
    obtain ⟨m, m1, m2, m3⟩ := R.p1 k hk (by omega)
    refine ⟨m, m1, ?_, m3, by have := cnt_le (pD (fun k => st.getD k 0) (fun k => en.getD k 0) (en.getD k 0)); omega⟩
    unfold futs5
    have e1 := dis_cnt (F := futS st en) (v := fun j => dS (fun k => st.getD k 0) (en.getD j 0)) (q := fun n => true) (fut_v st en) (fun j => Nat.lt_succ_of_le (dS_le _)) fut_inj 5
    rw [List.filter_eq_self.mpr fun _ _ => rfl] at e1
    rw [e1, shorter_dis, dis_cnt (v := fun j => dS (fun k => st.getD k 0) (en.getD j 0)) (q := fun n => decide (n < (futS st en k).length)) (fut_v st en) (fun j => Nat.lt_succ_of_le (dS_le _)) fut_inj, fut_v, ← m2]
    rw [cnt_split _ (dS (fun k => st.getD k 0) (en.getD k 0))]
    congr 1
    · refine cnt_congr fun x => ?_
      rw [Bool.and_true]
    · refine cnt_congr fun x => ?_
      rw [Bool.eq_iff_iff, pD_iff, Bool.and_true, Bool.and_eq_true, List.any_eq_true, decide_eq_true_eq]
      constructor
      · rintro ⟨⟨j, hj, h1⟩, h2⟩
        have h1' := eq_of_beq h1
        by_cases h3 : en.getD j 0 ≤ en.getD k 0
        · exact ⟨j, List.mem_range.mp hj, h3, h1'⟩
        · have := dS_mono (s := fun k => st.getD k 0) (show en.getD k 0 ≤ en.getD j 0 by omega)
          exact ⟨k, hk, Int.le_refl _, by omega⟩
      · rintro ⟨j, hj, h1, h2⟩
        have := dS_mono (s := fun k => st.getD k 0) h1
        exact ⟨⟨j, List.mem_range.mpr hj, beq_iff_eq.mpr h2⟩, by omega⟩
  refine ⟨fun k hk => ?_, fun k hk => ?_, fun k hk => ?_, fun k hk => ?_, fun k hk => ?_⟩
  · obtain ⟨m, h1, h2⟩ := lo k hk
    rw [h1, h2]
  · obtain ⟨m, h1, h2, _⟩ := hi k hk
    rw [h1, h2]; omega
  · obtain ⟨m, h1, _⟩ := lo k hk
    rw [h1]; omega
  · obtain ⟨m, h1, _, h3, _⟩ := hi k hk
    rw [h1]; exact h3
  · obtain ⟨m, h1, _, _, h4⟩ := hi k hk
    rw [h1]; omega
end
end Mine
end
section -- S75
open PySem PySem.W PyProof.Rows PySem.Calls PySem.Spec
set_option Elab.async false
set_option maxRecDepth 100000
set_option linter.unusedVariables false
set_option autoImplicit false
set_option pp.maxSteps 600
namespace Mine
section
variable {W : Wd} {f : Fd} {ρ ρ' : List Vr} {μ : Mu} {n : Nat}

/-- a text's figures, plain or with an underscore behind each -/
noncomputable def ulB (f : Bool) (l : List Nat) : List Nat := if f = true then ulL l else l
theorem ulB_mem {f : Bool} {l : List Nat} {c : Nat} (h : c ∈ ulB f l) : c ∈ l ∨ c = 95 := by
  unfold ulB at h
  split at h
  · exact ulL_mem h
  · exact .inl h
theorem ulB_filter {f : Bool} {l : List Nat} (h : ∀ c ∈ l, c ≠ 95) : (ulB f l).filter (· != 95) = l := by
  unfold ulB
  split
  · exact ulL_filter l h
  · refine List.filter_eq_self.mpr fun c hc => ?_
    simpa using h c hc
theorem ulB_len (f : Bool) (l : List Nat) : (ulB f l).length ≤ 2 * l.length := by
  unfold ulB
  split
  · exact ulL_len l
  · omega
theorem ulB_ne {f : Bool} {l : List Nat} (h : l ≠ []) : ulB f l ≠ [] := by
  unfold ulB
  split
  · cases l with
    | nil => exact absurd rfl h
    | cons a l =>
      show (if isDg a = true then [a, 95] else [a]) ++ ulL l ≠ []
      split <;> simp
  · exact h
theorem dg_facts {c : Nat} (h : isDg c = true) : c ≠ 95 ∧ c ≠ 44 ∧ Unicode.isSpace c = false := by
  unfold isDg at h
  rw [Bool.and_eq_true, decide_eq_true_eq, decide_eq_true_eq] at h
  have : ∀ i : Fin 10, Unicode.isSpace (48 + i.val) = false := by decide +kernel
  refine ⟨by omega, by omega, ?_⟩
  have e : c = 48 + (⟨c - 48, by omega⟩ : Fin 10).val := by show c = 48 + (c - 48); omega
  rw [e]; exact this _
theorem ulB_space {f : Bool} {l : List Nat} (h : ∀ c ∈ l, isDg c = true) : ∀ c ∈ ulB f l, Unicode.isSpace c = false := fun c hc => by
  rcases ulB_mem hc with hc | rfl
  · exact (dg_facts (h c hc)).2.2
  · decide +kernel
theorem sp_end : ∀ c ∈ [32, 10], Unicode.isSpace c = true := by decide +kernel
theorem tells_of {x : Str} {k : Int} {f : Bool} {sp : List Nat} (h0 : 0 ≤ k) (h1 : k < 10000000000) (hx : x.cps.toList = ulB f (num k).cps.toList ++ sp) (hs : ∀ c ∈ sp, Unicode.isSpace c = true) (hl : sp.length ≤ 2) : Tells x k := by
  have hd := num_dg h0
  have hn := num_len h0 h1
  have hu := ulB_len f (num k).cps.toList
  have hr := rstrip_cps hx hs (ulB_ne (num_ne h0)) (ulB_space hd)
  refine ⟨?_, ?_, ?_, h0, h1, ?_⟩
  · rw [str_len, hx, List.length_append]; omega
  · rw [str_len, hr]; omega
  · refine str_ext ?_
    rw [strike_cps, hr, ulB_filter fun c hc => (dg_facts (hd c hc)).1]
  · rw [str_len]; omega
theorem one_text {x : Str} {k : Int} {f : Bool} (h0 : 0 ≤ k) (h1 : k < 10000000000) (hx : x.cps.toList = ulB f (num k).cps.toList ++ [32, 10]) :
    x.length ≤ 1000 ∧ Txt.partition x (S ",") = (x, S "", S "") ∧ Tells x k ∧ Txt.replace x (S "_") (S "") = num k ++ S "" ++ S " \n" := by
  have hd := num_dg h0
  have hn := num_len h0 h1
  have hu := ulB_len f (num k).cps.toList
  refine ⟨?_, tpart_none ?_, tells_of h0 h1 hx sp_end (by decide), str_ext ?_⟩
  · rw [str_len, hx, List.length_append]; simp; omega
  · rw [hx]
    intro h
    rcases List.mem_append.mp h with h | h
    · rcases ulB_mem h with h | h
      · exact (dg_facts (hd _ h)).2.1 rfl
      · cases h
    · simp at h
  · rw [strike_cps, hx, List.filter_append, ulB_filter fun c hc => (dg_facts (hd c hc)).1, str_app, str_app, show (S "").cps.toList = [] by decide, show (S " \n").cps.toList = [32, 10] by decide, List.append_nil]
    rfl
theorem two_text {x : Str} {p q : Int} {f : Bool} (h0 : 0 ≤ p) (h1 : p < 10000000000) (g0 : 0 ≤ q) (g1 : q < 10000000000) (hx : x.cps.toList = ulB f (num p).cps.toList ++ 44 :: (ulB f (num q).cps.toList ++ [32, 10])) :
    x.length ≤ 1000 ∧ Txt.partition x (S ",") = (⟨(ulB f (num p).cps.toList).toArray⟩, S ",", ⟨(ulB f (num q).cps.toList ++ [32, 10]).toArray⟩) ∧ Tells ⟨(ulB f (num p).cps.toList).toArray⟩ p ∧ Tells ⟨(ulB f (num q).cps.toList ++ [32, 10]).toArray⟩ q ∧
      Txt.replace x (S "_") (S "") = num p ++ (S "," ++ num q) ++ S " \n" := by
  have hd := num_dg h0
  have hn := num_len h0 h1
  have hu := ulB_len f (num p).cps.toList
  have hd2 := num_dg g0
  have hn2 := num_len g0 g1
  have hu2 := ulB_len f (num q).cps.toList
  refine ⟨?_, tpart_at hx fun h => ?_, tells_of (f := f) (sp := []) h0 h1 (by simp) (fun c hc => by cases hc) (by decide), tells_of (f := f) (sp := [32, 10]) g0 g1 rfl sp_end (by decide), str_ext ?_⟩
  · rw [str_len, hx, List.length_append, List.length_cons, List.length_append]; simp; omega
  · rcases ulB_mem h with h | h
    · exact (dg_facts (hd _ h)).2.1 rfl
    · cases h
  · rw [strike_cps, hx, List.filter_append, List.filter_cons_of_pos (by decide), List.filter_append, ulB_filter fun c hc => (dg_facts (hd c hc)).1, ulB_filter fun c hc => (dg_facts (hd2 c hc)).1]
    rw [str_app, str_app, str_app, show (S ",").cps.toList = [44] by decide, show (S " \n").cps.toList = [32, 10] by decide]
    simp
theorem ulL_comma (a b : List Nat) : ulL (a ++ [44] ++ b) = ulL a ++ 44 :: ulL b := by
  rw [ulL_append, ulL_append]
  show ulL a ++ [44] ++ ulL b = _
  simp
theorem wrote_one {a b w k : Int} (h : (if w.fmod 2 = 1 then ctx a b else uni a b : Str) = num k) : (wrote a b w).cps.toList = ulB (decide ((w.fdiv 2).fmod 2 = 1)) (num k).cps.toList ++ [32, 10] := by
  unfold wrote
  rw [h, str_app, show (S " \n").cps.toList = [32, 10] by decide]
  congr 1
  unfold ulB
  by_cases e : (w.fdiv 2).fmod 2 = 1
  · rw [if_pos e, if_pos (decide_eq_true e), und_cps]
  · rw [if_neg e, if_neg (by rw [decide_eq_false e]; simp)]
theorem wrote_two {a b w p q : Int} (h : (if w.fmod 2 = 1 then ctx a b else uni a b : Str) = num p ++ S "," ++ num q) : (wrote a b w).cps.toList = ulB (decide ((w.fdiv 2).fmod 2 = 1)) (num p).cps.toList ++ 44 :: (ulB (decide ((w.fdiv 2).fmod 2 = 1)) (num q).cps.toList ++ [32, 10]) := by
  unfold wrote
  rw [h, str_app, show (S " \n").cps.toList = [32, 10] by decide]
  unfold ulB
  by_cases e : (w.fdiv 2).fmod 2 = 1
  · rw [if_pos e, if_pos (decide_eq_true e), if_pos (decide_eq_true e), und_cps, str_app, str_app, show (S ",").cps.toList = [44] by decide, ulL_comma]
    simp
  · rw [if_neg e, if_neg (by rw [decide_eq_false e]; simp), if_neg (by rw [decide_eq_false e]; simp), str_app, str_app, show (S ",").cps.toList = [44] by decide]
    simp
theorem mod2 (w : Int) : w.fmod 2 = 0 ∨ w.fmod 2 = 1 := by
  rw [Int.fmod_eq_emod_of_nonneg _ (by decide)]; omega
theorem hread_ok (V : W.Ok) : ∀ a b w : Int, 0 ≤ a → a < b → b ≤ a + 8 → b < 2000 → 0 ≤ w → w < 60001 → Cl W 12 (.ref 173) [.str (wrote a b w), .int w] (.tup [.int (a + 1), .int b]) := by
  intro a b w h0 h1 h2 h3 h4 h5
  by_cases hb : b - a = 1
  · have e : (if w.fmod 2 = 1 then ctx a b else uni a b : Str) = num (a + 1) := by
      unfold ctx uni
      rw [if_pos (show b - a ≤ 1 by omega), if_pos hb, if_neg (show ¬ b - a = 0 by omega)]
      split <;> rfl
    obtain ⟨t1, t2, t3, t4⟩ := one_text (k := a + 1) (by omega) (by omega) (wrote_one e)
    have := c_read1 (w := w) V t1 t2 t3 (by decide) t4
    rw [show D.int b = .int (a + 1) from congrArg D.int (by omega)]
    exact this
  · rcases mod2 w with hw | hw
    · have e : (if w.fmod 2 = 1 then ctx a b else uni a b : Str) = num (a + 1) ++ S "," ++ num (b - a) := by
        rw [if_neg (by omega)]
        unfold uni
        rw [if_neg hb, if_neg (show ¬ b - a = 0 by omega)]
      obtain ⟨t1, t2, t3, t4, t5⟩ := two_text (p := a + 1) (q := b - a) (by omega) (by omega) (by omega) (by omega) (wrote_two e)
      have := c_read2 (w := w) V t1 t2 t3 (by decide) t4 t5
      have el : lastOf (a + 1) (b - a) w = b := by
        unfold lastOf
        rw [if_neg (by omega)]; omega
      rw [el, if_pos (by omega)] at this
      exact this
    · have e : (if w.fmod 2 = 1 then ctx a b else uni a b : Str) = num (a + 1) ++ S "," ++ num b := by
        rw [if_pos hw]
        unfold ctx
        rw [if_neg (show ¬ b - a ≤ 1 by omega), if_neg (show ¬ b - a = 0 by omega), show a + 1 + (b - a) - 1 = b by omega]
      obtain ⟨t1, t2, t3, t4, t5⟩ := two_text (p := a + 1) (q := b) (by omega) (by omega) (by omega) (by omega) (wrote_two e)
      have := c_read2 (w := w) V t1 t2 t3 (by decide) t4 t5
      have el : lastOf (a + 1) b w = b := by
        unfold lastOf
        rw [if_pos hw]
      rw [el, if_pos (by omega)] at this
      exact this
theorem hempty_ok (V : W.Ok) : ∀ a w : Int, 0 ≤ a → a < 2000 → 0 ≤ w → w < 60001 → Cl W 11 (.ref 166) [.str (wrote a a w)] (.tup [.int a, if w.fmod 2 = 0 then .int 0 else D.none]) := by
  intro a w h0 h1 h2 h3
  rcases mod2 w with hw | hw
  · have e : (if w.fmod 2 = 1 then ctx a a else uni a a : Str) = num a ++ S "," ++ num 0 := by
      rw [if_neg (by omega)]
      unfold uni
      rw [if_neg (by omega), if_pos (by omega), show a + 1 - 1 = a by omega, show a - a = 0 by omega]
    obtain ⟨t1, t2, t3, t4, t5⟩ := two_text (p := a) (q := 0) (by omega) (by omega) (by omega) (by omega) (wrote_two e)
    rw [if_pos hw]
    exact c_two2 V t1 t2 t3 (by decide) t4 t5
  · have e : (if w.fmod 2 = 1 then ctx a a else uni a a : Str) = num a := by
      rw [if_pos hw]
      unfold ctx
      rw [if_pos (by omega), if_pos (by omega), show a + 1 - 1 = a by omega]
    obtain ⟨t1, t2, t3, t4⟩ := one_text (k := a) (by omega) (by omega) (wrote_one e)
    rw [if_neg (by omega)]
    exact c_two1 V t1 t2 t3 (by decide) t4
end
end Mine
end
section -- S76
open PySem PySem.W PyProof.Rows PySem.Calls PySem.Spec
set_option Elab.async false
set_option maxRecDepth 100000
set_option linter.unusedVariables false
set_option autoImplicit false
set_option pp.maxSteps 600
namespace Mine
section
variable {W : Wd} {f : Fd} {ρ ρ' : List Vr} {μ : Mu} {n : Nat}

/-- the law answers True -/
theorem law_ok {ns : List Int} (V : W.Ok) (hns : ns.length ≤ 1000) : Cl W 40 (.ref 210) [.lst (ns.map D.int)] (D.bool true) := by
  obtain ⟨h1, h2⟩ := cells_ok ns
  have G := good_of h1 h2
  exact c_law1 V hns rfl h1 h2 G (hread_ok V) tagF (hempty_ok V) (pressF G) (openF G)
end
end Mine
end
section -- S77
open PySem PySem.W PyProof.Rows PySem.Calls PySem.Spec
set_option Elab.async false
set_option maxRecDepth 100000
set_option linter.unusedVariables false
set_option autoImplicit false
set_option pp.maxSteps 600
namespace Mine
section
variable {W : Wd} {f : Fd} {ρ ρ' : List Vr} {μ : Mu} {n : Nat}

theorem ws : PySem.Challenge.rw_yj0022_01.wellSaid = true := by kernel_rfl
noncomputable abbrev rowL : OpenRow := PySem.Challenge.rw_yj0022_01.row
noncomputable abbrev tabs5 : List Addr := [175, 45, 30, 23, 207]
noncomputable abbrev hook : Hook := kmHook KK ([2, 3, 15, 17, 18, 20, 21, 22, 24, 25, 27, 28, 29, 31, 32, 34, 35, 36, 37, 39, 40, 42, 43, 44, 46, 47, 49, 50, 51, 53, 54, 56, 57, 58, 60, 61, 63, 64, 65, 67, 68, 70, 71, 79, 80, 82, 83, 85, 86, 87, 89, 90, 92, 93, 94, 96, 97, 99, 100, 101, 103, 104, 106, 107, 108, 110, 111, 113, 114, 115, 117, 118, 120, 121, 122, 124, 125, 127, 128, 129, 131, 132, 134, 135, 136, 138, 139, 141, 142, 143, 144, 145, 146, 147, 150, 153, 154, 155, 158, 159, 160, 162, 163, 165, 166, 167, 169, 170, 172, 173, 174, 176, 177, 179, 180, 181, 184, 185, 186, 189, 190, 191, 194, 195, 196, 199, 200, 201, 204, 205, 206, 209, 210]) (fun P => by kernel_rfl) tabs5
set_option maxHeartbeats 8000000 in
theorem left1 : LeftO rowL.toRowW.1 Mine.hv.view_1 [PySem.Str.ofString "compute_powers"] (fun s => xlAt Mine.hv.view_1 [] s && recOk rowL.records s) hook.obs hook.val 2320 := by
  intro w
  kernel_rfl
theorem tabs_mem {P : Addr} (h : isTab P) : P ∈ tabs5 := by
  obtain ⟨q, hq, rfl⟩ := h
  simp only [tabsL, List.mem_cons, List.not_mem_nil, or_false] at hq
  rcases hq with rfl | rfl | rfl | rfl | rfl <;> simp
theorem not_tab {P : Addr} (h : P ∉ tabs5) : ¬ isTab P := fun z => h (tabs_mem z)
noncomputable def mkWd (w : World) (mg mb : Str → Option Value) (B : Nat) : Wd := ⟨w, mg, mb, B⟩
theorem tabs_out (P : Params) : ∀ a ∈ tabs5, (KK P).lookup a = none := by
  intro a ha
  simp only [tabs5, List.mem_cons, List.not_mem_nil, or_false] at ha
  rcases ha with rfl | rfl | rfl | rfl | rfl <;> kernel_rfl
theorem ns_lt {h : Heap} {a : Addr} {m : Str → Option Value} (x : h.Ns a m) : a < h.objs.size := by
  obtain ⟨o, es, ep, e, _⟩ := x
  exact Heap.lt_size e
theorem wd_ok {p : Program} {loose : List Str} {mean : ExcName → Option Value} {w : World} {mg mb : Str → Option Value} {h : Heap} (T : Top p loose mean mg mb h) (X : (KK w.params).In h) (hT : ∀ P ∈ tabs5, h.get? P = some (tabObj #[])) : (mkWd w mg mb h.objs.size).Ok ∧ Inv (mkWd w mg mb h.objs.size) h := by
  obtain ⟨bm, ob, b1, b2, b3, b4, b5, b6⟩ := T.bmain
  have hbm : ¬ isTab bm := fun z => by
    have := hT _ (tabs_mem z)
    rw [b3] at this
    cases this
    cases b4
  refine ⟨⟨fun x v e => mg_of X T.g e, fun x e => mg_none_of X T.g e, T.builtins, fun a o e => Heap.lt_size (X a o e), ⟨ns_lt T.g, ns_lt T.b, ?_⟩, fun P hP => Heap.lt_size (hT _ (tabs_mem hP)), fun a o e z => ?_, ⟨not_tab (by decide), not_tab (by decide), not_tab (by decide)⟩, bm, b1, b2, Heap.lt_size b3, hbm⟩,
    ⟨X, T.g, T.b, T.nolimit, T.nodigits, ⟨bm, ob, b1, b3, b4, b5, b6⟩, fun q hq => ⟨#[], hT _ (tabs_mem ⟨q, hq, rfl⟩), trivial, fun pos c e => by cases e⟩, Nat.le_refl _⟩⟩
  · obtain ⟨mc, x, _⟩ := T.nodigits
    exact ns_lt x
  · have e' : (KK w.params).lookup a = some o := e
    rw [tabs_out _ _ (tabs_mem z)] at e'; cases e'
theorem ints_is {Y : Addr → Prop} {h : Heap} : ∀ {vs : List Value} {ns : List Int}, IntsAre vs ns → D.IsL Y h (ns.map D.int) vs := by
  intro vs ns x
  induction x with
  | nil => exact D.IsL.nil
  | cons _ _ _ ih => exact D.IsL.cons D.Is.int ih
theorem code_tab {h : Heap} {P : Params} (X : (KK P).In h) (hT : ∀ P ∈ tabs5, h.get? P = some (tabObj #[])) : ∀ a ∈ tabs5, isCodeTable h a := by
  intro a ha
  have hP := hT a ha
  simp only [tabs5, List.mem_cons, List.not_mem_nil, or_false] at ha
  rcases ha with rfl | rfl | rfl | rfl | rfl
  · exact ((codeHd_of_K (c := 179) (P := 175) X (by kernel_rfl)).tab hP).isCodeTable
  · exact ((codeHd_of_K (c := 49) (P := 45) X (by kernel_rfl)).tab hP).isCodeTable
  · exact ((codeHd_of_K (c := 34) (P := 30) X (by kernel_rfl)).tab hP).isCodeTable
  · exact ((codeHd_of_K (c := 27) (P := 23) X (by kernel_rfl)).tab hP).isCodeTable
  · exact ((codeHd_of_K (c := 209) (P := 207) X (by kernel_rfl)).tab hP).isCodeTable
theorem oldK_of {s s' : Shared} {P : Params} (X : (KK P).In s.heap) (hT : ∀ P ∈ tabs5, s.heap.get? P = some (tabObj #[])) (k : Kp No s s') : OldK s.heap s'.heap := by
  have grown : ∀ b o, isTab b → s.heap.get? b = some o → o = tabObj #[] ∧ ∃ more, s'.heap.get? b = some (tabObj (#[] ++ more)) := fun b o hb e => by
    have h1 := hT _ (tabs_mem hb)
    rw [e] at h1
    cases h1
    exact ⟨rfl, k.tab b hb #[] e⟩
  refine ⟨fun b o e => ?_, fun b o e => ?_⟩
  · by_cases hb : isTab b
    · obtain ⟨rfl, more, hm⟩ := grown b o hb e
      exact .inr (.inl ⟨code_tab X hT b (tabs_mem hb), rfl, #[], more, rfl, hm⟩)
    · exact .inl (k.keep b o e (fun z => z) hb)
  · by_cases hb : isTab b
    · obtain ⟨rfl, more, hm⟩ := grown b o hb e
      exact ⟨_, hm⟩
    · exact ⟨o, k.keep b o e (fun z => z) hb⟩
theorem post_ok (args ds : List WData) : rowL.claim.post args (.bool true) ds = true := by
  have h : ∀ (R : WRecords) (e : WCtx), e.res = some (.bool true) → (WTm.eq WTm.res (WTm.lit (.bool true))).value R e = some (.bool true) := fun R e he => w_eq_bool (w_res he) w_lit
  have e : rowL.claim.post args (.bool true) ds = (WShape.has rowL.records (WData.bool true) rowL.returns && WTm.holds rowL.records rowL.post { args := args, res := some (.bool true), after := ds }) := rfl
  have e1 : rowL.post = WTm.eq WTm.res (WTm.lit (.bool true)) := rfl
  have e2 : WShape.has rowL.records (WData.bool true) rowL.returns = true := by rfl
  rw [e, e1, e2, Bool.true_and]
  unfold WTm.holds
  rw [h _ _ rfl]
end
end Mine
set_option maxHeartbeats 8000000 in
theorem PySem.Challenge.cw_yj0022_01_holds : PySem.Challenge.rw_yj0022_01.Holds := by
  refine holds_law Mine.ws fun said => ?_
  refine' holds_open (q := Mine.hv.view_1) (loose := [PySem.Str.ofString "compute_powers"]) (Xt := fun s => xlAt Mine.hv.view_1 [] s && recOk Mine.rowL.records s) (XP := XL Mine.hv.view_1 []) (Yf := Mine.hook.obs) (Ya := Mine.hook.val) (YP := Mine.hook.says) (N := 2320) Mine.left1 Mine.hook.of Mine.hook.keeps (fun s e => xl_of s (Bool.and_eq_true_iff.mp e).1) XL.keeps (by rfl) ?a2 ?a3 (fun s e => recFacts_of (Bool.and_eq_true_iff.mp e).2) ?a4 said ?a6 ?a7 ?hw ?hc
  case a2 => rfl
  case a3 => rfl
  case a4 => rfl
  case a6 => decide +kernel
  case a7 => exact ⟨rfl, rfl, rfl, rfl, rfl, by decide +kernel⟩
  case hw => w_witness2
  case hc =>
    intro w s₀ s₁ mg mb G Y fa o pm cd doc dV kV ho hd hcd hD hmg hg args vals as hpre hlay hrd hwl hlo
    have T := G.T
    have X : (Mine.KK w.params).In s₁.heap := km_in_of Y
    have hT := km_tabs_of Y
    have hfa : fa = 210 := by
      have e := mg_of (n := PySem.Str.ofString "law") (v := .ref 210) X T.g (by kernel_rfl)
      have hmg' : mg (PySem.Str.ofString "law") = some (.ref fa) := hmg
      rw [e] at hmg'
      cases hmg'
      rfl
    obtain ⟨V, I⟩ := Mine.wd_ok T X hT
    clear hd hcd hD hmg ho
    wrow_args hpre hlay hrd hwl hlo
    rename_i ns hs hlay0 hL1 hr1 hl2 as1 as2 b vs as3 hL ra w1 r0 hI hr hlen htr
    subst hfa
    have hn : ns.length ≤ 1000 := by omega
    have yk : Mine.Yk (Mine.mkWd w mg mb s₁.heap.objs.size) (fun _ => False) s₁.heap := fun a z => z.elim
    have hb : ¬ Mine.isTab b := fun z => by
      have h1 := hT _ (Mine.tabs_mem z)
      obtain ⟨ob, e, hc, _⟩ := hL
      rw [e] at h1
      cases h1
      cases hc
    have il : Mine.D.IsL (fun _ => False) s₁.heap [.lst (ns.map Mine.D.int)] [.ref b] := by
      refine Mine.D.IsL.cons ?_ Mine.D.IsL.nil
      simp only [Mine.D.Is]
      exact ⟨b, vs, rfl, ⟨fun z => z, hb⟩, hL, Mine.ints_is hI⟩
    have rm : Mine.Rm 40 callerA := ⟨rfl, by decide, by decide⟩
    refine wpAny_mono (Mine.law_ok V hn callerA rm s₁ (fun _ => False) [.ref b] I yk il) (fun v s' p => ?_) fun _ _ z => z.elim
    obtain ⟨k, I', i⟩ := p
    obtain rfl := Mine.D.Is.val_iff.mp i
    refine ⟨.inl ⟨_, .bool true, [], rfl, fun _ => rfl, .bool true, Mine.post_ok _ _, fun _ => ⟨List.nodup_nil, fun a ha => by cases ha⟩⟩, Mine.oldK_of X hT k, k.os, fun y hy => ?_⟩
    obtain ⟨i, hi⟩ := Array.mem_iff_getElem?.mp hy
    exact k.bare i y hi (by rw [hg]; exact Nat.zero_le _)
end
