import PyProof.Rows.All
import Wide.All
import OpenK.AllK
import Wide.FinOn
import Lean
import PySem.Challenge.RW_in0267_01
set_option Elab.async false
set_option linter.unusedVariables false
/- Hd -/
open PySem PySem.W PyProof.Rows
set_option maxRecDepth 100000
namespace Mine
/-- the statements of the text that the head pins -/
def qV : Program := PySem.W.view PySem.Challenge.pw_in0267_01 [0, 2, 3, 4, 5, 6, 7, 9, 10, 12, 14, 17, 18, 19, 20, 21, 22, 23, 24, 25]
def looseN : List Str := ["IPV4_RE", "_twin_re_1", "_special_chars_map", "_initial_missing", "reduce"]
theorem well_said : OpenLaw.wellSaid PySem.Challenge.rw_in0267_01 = true := by
  rw [PySem.W.Fast.te9446332074065402090]
  kernel_rfl
section
local macro_rules
  | `(tactic| o_head $_) => `(tactic| assumption)
/-- the kit's tactic writes the heap's fragment out: frag0.heap_1 -/
theorem frag0 (h : PySem.Challenge.rw_in0267_01.row.Holds) : PySem.Challenge.rw_in0267_01.row.Holds := by
  k_head
end
noncomputable abbrev KP : Params → Frag := frag0.heap_1
def asN : List Addr := [2, 3, 6, 11, 12, 35, 36, 37, 39, 40, 42, 43, 44, 46, 47, 49, 50, 51, 53, 54, 56, 57, 58, 60, 61, 63, 64, 68, 69, 71, 75, 77, 78, 80, 81, 82, 84, 85, 87, 88, 89, 90, 91, 93, 94, 96, 97, 98, 101, 102, 103, 105, 106, 108, 109, 110, 113, 114, 115, 118, 119, 120, 122, 123, 125, 126, 127, 129, 130, 132, 133, 134, 137, 138, 139, 142, 143, 144, 147, 148]
theorem as_ok : ∀ P, asN = (KP P).map (·.1) := fun _ => by kernel_rfl
noncomputable def HK : Hook := kmHook KP asN as_ok [83, 116]
def LeftAt (w : World) : Prop := (openEnds treeTable PySem.Challenge.pw_in0267_01 w 4032).map (fun s => (openSeen qV looseN (importedModules PySem.Challenge.pw_in0267_01.main.body) (fun s => xlAt qV [] s && recOk [] s) true s, Hook.obs HK s)) = some (openGood qV looseN, Hook.val HK w)
set_option maxHeartbeats 8000000 in
theorem left1 : ∀ w : World, LeftAt ((w.withFollow "comprehension-iter-twice" false).withFollow "special-get-raises" false) := by
  intro w
  unfold LeftAt openEnds fencedOpening topFrom
  rw [PySem.W.Fast.te14364793385576792824, PySem.W.Fast.te10274390034422433532, PySem.W.Fast.te1435165496053646825, PySem.W.Fast.te14289696077712309145, PySem.W.Fast.te14082659384304107361]
  kernel_rfl
set_option maxHeartbeats 8000000 in
theorem left2 : ∀ w : World, LeftAt ((w.withFollow "comprehension-iter-twice" false).withFollow "special-get-raises" true) := by
  intro w
  unfold LeftAt openEnds fencedOpening topFrom
  rw [PySem.W.Fast.te14364793385576792824, PySem.W.Fast.te10274390034422433532, PySem.W.Fast.te1435165496053646825, PySem.W.Fast.te14289696077712309145, PySem.W.Fast.te14082659384304107361]
  kernel_rfl
set_option maxHeartbeats 8000000 in
theorem left3 : ∀ w : World, LeftAt ((w.withFollow "comprehension-iter-twice" true).withFollow "special-get-raises" false) := by
  intro w
  unfold LeftAt openEnds fencedOpening topFrom
  rw [PySem.W.Fast.te14364793385576792824, PySem.W.Fast.te10274390034422433532, PySem.W.Fast.te1435165496053646825, PySem.W.Fast.te14289696077712309145, PySem.W.Fast.te14082659384304107361]
  kernel_rfl
set_option maxHeartbeats 8000000 in
theorem left4 : ∀ w : World, LeftAt ((w.withFollow "comprehension-iter-twice" true).withFollow "special-get-raises" true) := by
  intro w
  unfold LeftAt openEnds fencedOpening topFrom
  rw [PySem.W.Fast.te14364793385576792824, PySem.W.Fast.te10274390034422433532, PySem.W.Fast.te1435165496053646825, PySem.W.Fast.te14289696077712309145, PySem.W.Fast.te14082659384304107361]
  kernel_rfl
end Mine

/- L1 -/
open PySem PySem.Spec PySem.Calls PySem.W PyProof.Rows
namespace Mine

abbrev prg : Program := PySem.Challenge.pw_in0267_01
noncomputable abbrev KK : Params → Frag := KP

/-- what is known of the table of `_law_taken`'s code: empty, or it holds the lambda's code -/
def lamPos : Pos := ⟨142, 31, 142, 80⟩
def lamQual : Str := Str.ofString "_law_taken.<locals>.<lambda>"
def T116 (h : Heap) : Prop := h.get? 116 = some (tabObj #[]) ∨ ∃ c', h.get? 116 = some (tabObj #[rawInt lamPos.line, rawInt lamPos.col, .ref c']) ∧ h.CodeRec (.ref c') lamQual ∧ 149 ≤ c'
def Tb (h : Heap) : Prop := T116 h ∧ ∃ ps, h.get? 83 = some (tabObj ps)

structure Kp (f : Bool) (h h' : Heap) : Prop where
  keep : ∀ b o, b ≠ 116 → (f = true → b ≠ 83) → h.get? b = some o → h'.get? b = some o
  tb : Tb h → Tb h'

theorem T116.keeps {h h' : Heap} (x : T116 h) (hk : ∀ b o, h.get? b = some o → h'.get? b = some o) : T116 h' := by
  rcases x with x | ⟨c', x, r, z⟩
  · exact .inl (hk _ _ x)
  · exact .inr ⟨c', hk _ _ x, r.keeps hk, z⟩
theorem Kp.of_keeps {f : Bool} {h h' : Heap} (hk : ∀ b o, h.get? b = some o → h'.get? b = some o) : Kp f h h' :=
  ⟨fun b o _ _ e => hk b o e, fun ⟨x, ps, e⟩ => ⟨x.keeps hk, ps, hk _ _ e⟩⟩
theorem Kp.refl {f : Bool} (h : Heap) : Kp f h h := .of_keeps fun _ _ e => e
theorem Kp.trans {f : Bool} {h₁ h₂ h₃ : Heap} (x : Kp f h₁ h₂) (y : Kp f h₂ h₃) : Kp f h₁ h₃ :=
  ⟨fun b o n1 n2 e => y.keep b o n1 n2 (x.keep b o n1 n2 e), fun t => y.tb (x.tb t)⟩
theorem Kp.weak {f : Bool} {h h' : Heap} (x : Kp false h h') : Kp f h h' := ⟨fun b o n1 _ e => x.keep b o n1 (fun q => by cases q) e, x.tb⟩
theorem Kp.up {f : Bool} {h h' : Heap} (x : Kp f h h') : Kp true h h' := ⟨fun b o n1 n2 e => x.keep b o n1 (fun _ => n2 rfl) e, x.tb⟩

/-- an object that is no table of a code -/
def noTab (o : Obj) : Prop := ∀ ps, o ≠ tabObj ps
theorem Kp.get {f : Bool} {h h' : Heap} (x : Kp f h h') (t : Tb h) {b : Addr} {o : Obj} (e : h.get? b = some o) (n : noTab o) : h'.get? b = some o := by
  refine x.keep b o (fun q => ?_) (fun _ q => ?_) e
  · subst q
    rcases t.1 with y | ⟨c', y, _⟩ <;> (rw [e] at y; exact n _ (Option.some.inj y))
  · subst q
    obtain ⟨ps, y⟩ := t.2
    rw [e] at y; exact n _ (Option.some.inj y)

structure Kps (f : Bool) (s s' : Shared) : Prop where
  ex : ∃ h' tk gs, s' = { s with heap := h', toks := tk, gens := gs } ∧ (AllBare s.gens → AllBare gs)
  kp : Kp f s.heap s'.heap
theorem Kps.refl {f : Bool} (s : Shared) : Kps f s s := ⟨⟨_, _, _, rfl, id⟩, .refl _⟩
theorem Kps.trans {f : Bool} {s₁ s₂ s₃ : Shared} (x : Kps f s₁ s₂) (y : Kps f s₂ s₃) : Kps f s₁ s₃ := by
  obtain ⟨h1, t1, g1, rfl, b1⟩ := x.ex
  obtain ⟨h2, t2, g2, rfl, b2⟩ := y.ex
  exact ⟨⟨h2, t2, g2, rfl, fun b => b2 (b1 b)⟩, x.kp.trans y.kp⟩
theorem Kps.of_keeps {f : Bool} {s : Shared} {h' : Heap} {tk : Nat} (hk : ∀ b o, s.heap.get? b = some o → h'.get? b = some o) : Kps f s { s with heap := h', toks := tk } :=
  ⟨⟨_, _, _, rfl, id⟩, .of_keeps hk⟩
theorem Kps.of {f : Bool} {s s' : Shared} (k : Keeps s s') : Kps f s s' := by
  obtain ⟨h', tk, rfl, hk⟩ := k
  exact .of_keeps hk
theorem Kps.toks {f : Bool} {s : Shared} {tk : Nat} : Kps f s { s with toks := tk } := .of_keeps fun _ _ e => e
theorem Kps.push {f : Bool} {s : Shared} {o : Obj} {tk : Nat} : Kps f s { s with heap := s.heap.push o, toks := tk } := .of_keeps fun _ _ e => Heap.get?_push_of_some _ e
theorem Kps.push' {f : Bool} {s : Shared} {o : Obj} : Kps f s { s with heap := s.heap.push o } := .of_keeps (tk := s.toks) fun _ _ e => Heap.get?_push_of_some _ e
theorem Kps.up {f : Bool} {s s' : Shared} (x : Kps f s s') : Kps true s s' := ⟨x.ex, x.kp.up⟩
theorem Kps.weak {f : Bool} {s s' : Shared} (x : Kps false s s') : Kps f s s' := ⟨x.ex, x.kp.weak⟩

/-- the ground: what holds in every state of the law's call -/
structure Gd (w : World) (h : Heap) : Prop where
  K : (KK w.params).In h
  g : ∃ mg, h.Ns mainGlobals mg
  b : ∃ mb, h.Ns builtinsNs mb ∧ ∀ x : Str, x ≠ "__name__" → mb x = bootBuiltins x
  lim : h.NoLimit
  tb : Tb h
  bm : ∀ mg, h.Ns mainGlobals mg → ∃ bm ob, mg "__builtins__" = some (.ref bm) ∧ bm ≠ builtinsNs ∧ h.get? bm = some ob ∧ ob.cls = .type "module" ∧ ob.dict = some builtinsNs ∧ ob.data = .plain

theorem Ns.kp {f : Bool} {h h' : Heap} {a : Addr} {m : Str → Option Value} (x : h.Ns a m) (k : Kp f h h') (t : Tb h) : h'.Ns a m :=
  let ⟨o, es, ep, e, hd, r⟩ := x; ⟨o, es, ep, k.get t e (fun ps q => by rw [q] at hd; cases hd), hd, r⟩
theorem IsCell.kp {f : Bool} {h h' : Heap} {c : Addr} {v : Option Value} (x : h.IsCell c v) (k : Kp f h h') (t : Tb h) : h'.IsCell c v :=
  let ⟨o, e, hd⟩ := x; ⟨o, k.get t e (fun ps q => by rw [q] at hd; cases hd), hd⟩
theorem PlainList.kp {f : Bool} {h h' : Heap} {a : Addr} {vs : Array Value} (x : h.PlainList a vs) (k : Kp f h h') (t : Tb h) : h'.PlainList a vs :=
  let ⟨n, e⟩ := x; ⟨n, k.get t e (fun ps q => by cases q)⟩
theorem Ns.uniq {h : Heap} {a : Addr} {m m' : Str → Option Value} (x : h.Ns a m) (y : h.Ns a m') : m = m' := by
  obtain ⟨o, es, ep, e, hd, _, hf⟩ := x
  obtain ⟨o', es', ep', e', hd', _, hf'⟩ := y
  rw [e] at e'; cases e'
  rw [hd] at hd'; cases hd'
  funext n
  rw [← hf, ← hf']
theorem KK_noTabs (P : Params) : noTabs (KK P) = true := by kernel_rfl
theorem KKin.kp {f : Bool} {w : World} {h h' : Heap} (x : (KK w.params).In h) (k : Kp f h h') (t : Tb h) : (KK w.params).In h' := fun a o e => by
  refine k.get t (x a o e) fun ps q => ?_
  have h2 := List.all_eq_true.mp (KK_noTabs w.params) (a, o) (mem_of_lookupK e)
  subst q
  exact absurd (show false = true from h2) Bool.false_ne_true
theorem Gd.kp {f : Bool} {w : World} {h h' : Heap} (x : Gd w h) (k : Kp f h h') : Gd w h' where
  K := KKin.kp x.K k x.tb
  g := let ⟨mg, e⟩ := x.g; ⟨mg, Ns.kp e k x.tb⟩
  b := let ⟨mb, e, r⟩ := x.b; ⟨mb, Ns.kp e k x.tb, r⟩
  lim := let ⟨mc, e, r⟩ := x.lim; ⟨mc, Ns.kp e k x.tb, r⟩
  tb := k.tb x.tb
  bm := fun mg e => by
    obtain ⟨mg', e'⟩ := x.g
    have := Ns.uniq e (Ns.kp e' k x.tb)
    subst this
    obtain ⟨bm, ob, a1, a2, a3, a4, a5, a6⟩ := x.bm _ e'
    exact ⟨bm, ob, a1, a2, k.get x.tb a3 (fun ps q => by rw [q] at a6; cases a6), a4, a5, a6⟩

/-- pure values -/
inductive PV where
  | none
  | bool (b : Bool)
  | int (i : Int)
  | str (x : Str)
  | list (l : List PV)
  | obj (a : Addr)
  | bi (id : String)
  | ty (n : String)

mutual
inductive Rp (h : Heap) : Value → PV → Prop
  | none : Rp h .none .none
  | bool (b : Bool) : Rp h (.bool b) (.bool b)
  | int (i : Int) (t : Tok) : Rp h (.int i t) (.int i)
  | str (x : Str) (t : Tok) : Rp h (.str x t) (.str x)
  | list {a : Addr} {vs : List Value} {ps : List PV} : 149 ≤ a → h.PlainList a vs.toArray → Rps h vs ps → Rp h (.ref a) (.list ps)
  | obj (a : Addr) : a < 149 → Rp h (.ref a) (.obj a)
  | bi (id : String) : Rp h (.builtin id) (.bi id)
  | ty (n : String) : Rp h (.type n) (.ty n)
inductive Rps (h : Heap) : List Value → List PV → Prop
  | nil : Rps h [] []
  | cons {v : Value} {p : PV} {vs : List Value} {ps : List PV} : Rp h v p → Rps h vs ps → Rps h (v :: vs) (p :: ps)
end

mutual
theorem Rp.kp {f : Bool} {h h' : Heap} (k : Kp f h h') (t : Tb h) : ∀ {v : Value} {p : PV}, Rp h v p → Rp h' v p
  | _, _, .none => .none
  | _, _, .bool b => .bool b
  | _, _, .int i t => .int i t
  | _, _, .str x t => .str x t
  | _, _, .list z a b => .list z (PlainList.kp a k t) (Rps.kp k t b)
  | _, _, .obj a z => .obj a z
  | _, _, .bi i => .bi i
  | _, _, .ty i => .ty i
theorem Rps.kp {f : Bool} {h h' : Heap} (k : Kp f h h') (t : Tb h) : ∀ {vs : List Value} {ps : List PV}, Rps h vs ps → Rps h' vs ps
  | _, _, .nil => .nil
  | _, _, .cons a b => .cons (Rp.kp k t a) (Rps.kp k t b)
end
theorem Rps.length {h : Heap} {vs : List Value} {ps : List PV} (x : Rps h vs ps) : vs.length = ps.length := by
  induction ps generalizing vs with
  | nil => cases x; rfl
  | cons p ps ih => cases x with | cons a b => simp [ih b]
theorem Rps.get {h : Heap} {vs : List Value} {ps : List PV} (x : Rps h vs ps) {i : Nat} {p : PV} (hp : ps[i]? = some p) : ∃ v, vs[i]? = some v ∧ Rp h v p := by
  induction ps generalizing vs i with
  | nil => simp at hp
  | cons q ps ih =>
    cases x with
    | cons a b =>
      cases i with
      | zero => simp at hp; subst hp; exact ⟨_, rfl, a⟩
      | succ i => simp at hp; simpa using ih b hp
theorem Rps.append {h : Heap} {vs us : List Value} {ps qs : List PV} (x : Rps h vs ps) (y : Rps h us qs) : Rps h (vs ++ us) (ps ++ qs) := by
  induction ps generalizing vs with
  | nil => cases x; exact y
  | cons p ps ih => cases x with | cons a b => exact .cons a (ih b)

theorem PlainList.uniq {h : Heap} {a : Addr} {x y : Array Value} (p : h.PlainList a x) (q : h.PlainList a y) : x = y := by
  obtain ⟨n, e⟩ := p
  obtain ⟨m, e'⟩ := q
  rw [e] at e'; cases e'; rfl
mutual
theorem Rp.fn {h : Heap} : ∀ {v : Value} {p q : PV}, Rp h v p → Rp h v q → p = q
  | _, _, _, .none, .none => rfl
  | _, _, _, .bool b, .bool _ => rfl
  | _, _, _, .int i t, .int _ _ => rfl
  | _, _, _, .str x t, .str _ _ => rfl
  | _, _, _, .list z a b, .list z' a' b' => by
    have := PlainList.uniq a a'
    have e := congrArg Array.toList this
    simp at e
    subst e
    rw [Rps.fn b b']
  | _, _, _, .list z a b, .obj _ z' => absurd z' (Nat.not_lt.mpr z)
  | _, _, _, .obj _ z', .list z a b => absurd z' (Nat.not_lt.mpr z)
  | _, _, _, .obj _ _, .obj _ _ => rfl
  | _, _, _, .bi i, .bi _ => rfl
  | _, _, _, .ty i, .ty _ => rfl
theorem Rps.fn {h : Heap} : ∀ {vs : List Value} {ps qs : List PV}, Rps h vs ps → Rps h vs qs → ps = qs
  | _, _, _, .nil, .nil => rfl
  | _, _, _, .cons a b, .cons a' b' => by rw [Rp.fn a a', Rps.fn b b']
end
/-- q lies in p -/
inductive Occ (q : PV) : PV → Prop
  | here : Occ q q
  | deep {p : PV} {l : List PV} : Occ q p → p ∈ l → Occ q (.list l)
mutual
theorem Rp.off {h h' : Heap} {D : Addr} {ys : Array Value} {qs : List PV} (hD : h.PlainList D ys) (hq : Rps h ys.toList qs) (hk : ∀ b o, b ≠ D → h.get? b = some o → h'.get? b = some o) : ∀ {v : Value} {p : PV}, Rp h v p → ¬ Occ (.list qs) p → Rp h' v p
  | _, _, .none, _ => .none
  | _, _, .bool b, _ => .bool b
  | _, _, .int i t, _ => .int i t
  | _, _, .str x t, _ => .str x t
  | _, _, .list (a := a) z x b, n => by
    by_cases e : a = D
    · subst e
      have := PlainList.uniq x hD
      subst this
      have := Rps.fn b hq
      subst this
      exact absurd .here n
    · obtain ⟨m, e'⟩ := x
      exact .list z ⟨m, hk _ _ e e'⟩ (Rps.off hD hq hk b fun p hp o => n (.deep o hp))
  | _, _, .obj a z, _ => .obj a z
  | _, _, .bi i, _ => .bi i
  | _, _, .ty i, _ => .ty i
theorem Rps.off {h h' : Heap} {D : Addr} {ys : Array Value} {qs : List PV} (hD : h.PlainList D ys) (hq : Rps h ys.toList qs) (hk : ∀ b o, b ≠ D → h.get? b = some o → h'.get? b = some o) : ∀ {vs : List Value} {ps : List PV}, Rps h vs ps → (∀ p ∈ ps, ¬ Occ (.list qs) p) → Rps h' vs ps
  | _, _, .nil, _ => .nil
  | _, _, .cons a b, n => .cons (Rp.off hD hq hk a (n _ (.head _))) (Rps.off hD hq hk b fun p hp => n p (.tail _ hp))
end
theorem Gd.sz {w : World} {h : Heap} (G : Gd w h) : 149 ≤ h.objs.size := by
  have e : ∃ o, (KK w.params).lookup 148 = some o := ⟨_, rfl⟩
  obtain ⟨o, e⟩ := e
  exact Heap.lt_size (G.K _ _ e)

/-- room for n more frames -/
def Room (n : Nat) (A : Around) : Prop := A.handled = none ∧ A.depth + n < recursionLimit ∧ A.units + 8 * n + 8 < cLine

section
variable (f : Bool) (w : World) (A : Around)
def Ev {α : Type} (t : Sem α) (P : Heap → α → Prop) (s : Shared) : Prop := ∀ E, wpAny (model prg w) A t (fun v s' => P s'.heap v ∧ Kps f s s') E s
end
def SpecOf (f : Bool) (w : World) (n : Nat) (a : Addr) (args : List PV) (r : PV) : Prop :=
  ∀ A s vs, Room n A → Gd w s.heap → Rps s.heap vs args → Ev f w A (call (.ref a) vs) (fun h v => Rp h v r) s

section
variable {f : Bool} {w : World} {A : Around}
theorem Ev.bind {α β : Type} {t : Sem α} {k : α → Sem β} {P : Heap → α → Prop} {R : Heap → β → Prop} {s : Shared} (h : Ev f w A t P s) (hk : ∀ v s', P s'.heap v → Kps f s s' → Ev f w A (k v) R s') : Ev f w A (t >>= k) R s := fun E =>
  wpAny_bind (wpAny_mono (h E) (fun v s' hv => wpAny_mono (hk v s' hv.1 hv.2 E) (fun u s'' hu => ⟨hu.1, hv.2.trans hu.2⟩) fun _ _ e => e) fun _ _ e => e)
theorem Ev.mono {α : Type} {t : Sem α} {P P' : Heap → α → Prop} {s : Shared} (h : Ev f w A t P s) (hP : ∀ v s', Kps f s s' → P s'.heap v → P' s'.heap v) : Ev f w A t P' s := fun E =>
  wpAny_mono (h E) (fun v s' hv => ⟨hP v s' hv.2 hv.1, hv.2⟩) fun _ _ e => e
theorem Ev.pure {α : Type} {a : α} {P : Heap → α → Prop} {s : Shared} (h : P s.heap a) : Ev f w A (pure a) P s := fun _ => wpAny_pure ⟨h, .refl _⟩
end
end Mine

/- L2 -/
open PySem PySem.Spec PySem.Calls PySem.W PyProof.Rows
namespace Mine

/-- a frame's dict, or a cell -/
def softTypes : List String := ["list_iterator", "range_iterator", "str_iterator", "str_ascii_iterator"]
def frameish (o : Obj) : Prop := (∃ es n, o.data = .dict es n) ∨ (∃ v, o.data = .cell v) ∨ ((∃ T ∈ softTypes, o.cls = .type T) ∧ ∀ vs, o.data = .fields vs → ∀ q t, vs[1]? ≠ some (.str q t))
theorem not_frameish {T : String} {o : Obj} (hc : o.cls = .type T) (h1 : ∀ es n, o.data ≠ .dict es n) (h2 : ∀ v, o.data ≠ .cell v) (h3 : T ∉ softTypes := by decide) : ¬ frameish o := by
  rintro (⟨es, n, e⟩ | ⟨v, e⟩ | ⟨e, _⟩)
  · exact h1 _ _ e
  · exact h2 _ e
  · obtain ⟨T', h, e⟩ := e
    rw [hc] at e
    injection e with e
    exact h3 (e ▸ h)
structure St (own : List Addr) (h h' : Heap) : Prop where
  fr : ∀ b ∈ own, ∃ o, h.get? b = some o ∧ frameish o
  keep : ∀ b o, b ∉ own → h.get? b = some o → h'.get? b = some o
theorem St.get {own : List Addr} {h h' : Heap} (x : St own h h') {b : Addr} {o : Obj} (e : h.get? b = some o) (n : ¬ frameish o) : h'.get? b = some o :=
  x.keep b o (fun q => by obtain ⟨o', e', r⟩ := x.fr b q; rw [e] at e'; cases e'; exact n r) e
theorem PlainList.st {own : List Addr} {h h' : Heap} {a : Addr} {vs : Array Value} (x : h.PlainList a vs) (k : St own h h') : h'.PlainList a vs :=
  let ⟨n, e⟩ := x; ⟨n, k.get e (not_frameish rfl (fun _ _ q => by cases q) (fun _ q => by cases q))⟩
mutual
theorem Rp.st {own : List Addr} {h h' : Heap} (k : St own h h') : ∀ {v : Value} {p : PV}, Rp h v p → Rp h' v p
  | _, _, .none => .none
  | _, _, .bool b => .bool b
  | _, _, .int i t => .int i t
  | _, _, .str x t => .str x t
  | _, _, .list z a b => .list z (PlainList.st a k) (Rps.st k b)
  | _, _, .obj a z => .obj a z
  | _, _, .bi i => .bi i
  | _, _, .ty i => .ty i
theorem Rps.st {own : List Addr} {h h' : Heap} (k : St own h h') : ∀ {vs : List Value} {ps : List PV}, Rps h vs ps → Rps h' vs ps
  | _, _, .nil => .nil
  | _, _, .cons a b => .cons (Rp.st k a) (Rps.st k b)
end
/-- a heap predicate that no step turns -/
structure SP where
  P : Heap → Value → Prop
  base : List Addr
  mono : ∀ {h h' : Heap} {v : Value}, Tb h → Kp true h h' → P h v → P h' v
  off : ∀ own h h' v, (∀ b ∈ own, b ∉ base) → St own h h' → P h v → P h' v
  inb : ∀ h v, P h v → ∀ b ∈ base, ∃ o, h.get? b = some o
/-- one that leans on no frame -/
def SP.mk0 (P : Heap → Value → Prop) (mono : ∀ {h h' : Heap} {v : Value}, Tb h → Kp true h h' → P h v → P h' v) (off : ∀ own h h' v, St own h h' → P h v → P h' v) : SP := ⟨P, [], mono, fun o h h' v _ => off o h h' v, fun _ _ _ _ hb => by cases hb⟩
def R (p : PV) : SP := .mk0 (fun h v => Rp h v p) (fun t k r => Rp.kp k t r) (fun _ _ _ _ k r => Rp.st k r)

def Var (h : Heap) (env : Env) (x : Str) (v : Value) : Prop :=
  (env.kindOf x = some .local ∧ ∃ m, h.Ns env.locals m ∧ m x = some v) ∨
  ((env.kindOf x = some .cell ∨ env.kindOf x = some .free) ∧ ∃ c, env.cells.lookup x = some c ∧ h.IsCell c (some v))
theorem Var.kp {f : Bool} {h h' : Heap} {env : Env} {x : Str} {v : Value} (k : Kp f h h') (t : Tb h) : Var h env x v → Var h' env x v
  | .inl ⟨a, m, b, c⟩ => .inl ⟨a, m, Ns.kp b k t, c⟩
  | .inr ⟨a, c, b, d⟩ => .inr ⟨a, c, b, IsCell.kp d k t⟩

abbrev Ro := List (Str × SP)
def FrV (env : Env) (h : Heap) (ρ : Ro) : Prop := ∀ x sp, ρ.lookup x = some sp → ∃ v, Var h env x v ∧ sp.P h v
theorem FrV.kp {f : Bool} {h h' : Heap} {env : Env} {ρ : Ro} (k : Kp f h h') (t : Tb h) (x : FrV env h ρ) : FrV env h' ρ := fun y sp e =>
  let ⟨v, a, b⟩ := x y sp e; ⟨v, a.kp k t, sp.mono t k.up b⟩

section
variable (f : Bool) (w : World) (A : Around) (env : Env) (ρ : Ro)
def EV (e : PySem.Expr) (P : SP) : Prop := ∀ s, Gd w s.heap → FrV env s.heap ρ → Ev f w A (eval e env) P.P s
def EB (e : PySem.Expr) (b : Bool) : Prop := ∀ s, Gd w s.heap → FrV env s.heap ρ → Ev f w A (isTrue e env (eval e env)) (fun _ v => v = b) s
end

section
variable {f : Bool} {w : World} {A : Around} {env : Env} {ρ : Ro} {e l r : PySem.Expr} {P P1 P2 : SP} {pos : Pos} {x : Str}

/-- a step of a tree, then a tree -/
theorem Ev.two {α β : Type} {t : Sem α} {s : Shared} {P : Heap → α → Prop} {Q : β → Shared → Prop} {k : α → Shared → Prop} {E : Value → Shared → Prop} (h : Ev f w A t P s) (hk : ∀ v s', P s'.heap v → Kps f s s' → k v s') : wpAny (model prg w) A t k E s :=
  wpAny_mono (h E) (fun v s' hv => hk v s' hv.1 hv.2) fun _ _ e => e

theorem ev_name (hl : ρ.lookup x = some P) (hk : env.scope.kind = .function := by rfl) (hd : (x == ("__debug__" : Str)) = false := by decide) (hn : (x == ("__classdict__" : Str)) = false := by decide) : EV f w A env ρ (.Name x pos) P := fun s G F E => by
  obtain ⟨v, hv, hp⟩ := F x P hl
  rcases hv with ⟨k, m, n, e⟩ | ⟨k, c, e, n⟩
  · exact wpAny_Name (wpAny_loadName_local hk k n e ⟨hp, .refl _⟩) hd
  · rcases k with k | k
    · exact wpAny_Name (wpAny_loadName_cell hk k e n ⟨hp, .refl _⟩) hd
    · exact wpAny_Name (wpAny_loadName_free hk k e n ⟨hp, .refl _⟩ hn) hd

theorem ev_glob {v : Value} {p : PV} (e : ∀ w : World, nsIn (KK w.params) mainGlobals x = some (some v)) (hp : ∀ h, Rp h v p) (hk : env.scope.kind = .function := by rfl) (hx : env.kindOf x = some .globalImplicit := by rfl) (hg : env.globals = mainGlobals := by rfl) (hd : (x == ("__debug__" : Str)) = false := by decide) : EV f w A env ρ (.Name x pos) (R p) := fun s G F E => by
  obtain ⟨mg, g⟩ := G.g
  exact Name_function_global hk hx (loadGlobal_global (by rw [hg]; exact g) (mg_of G.K g (e w)) ⟨hp _, .refl _⟩) hd

theorem ev_blt {v : Value} {p : PV} (e : ∀ w : World, nsIn (KK w.params) mainGlobals x = some none) (hv : bootBuiltins x = some v) (hp : ∀ h, Rp h v p) (hn : x ≠ "__name__" := by decide) (hk : env.scope.kind = .function := by rfl) (hx : env.kindOf x = some .globalImplicit := by rfl) (hg : env.globals = mainGlobals := by rfl) (hb : env.builtins = builtinsNs := by rfl) (hd : (x == ("__debug__" : Str)) = false := by decide) : EV f w A env ρ (.Name x pos) (R p) := fun s G F E => by
  obtain ⟨mg, g⟩ := G.g
  obtain ⟨mb, b, hb'⟩ := G.b
  exact Name_function_global hk hx (loadGlobal_builtin (by rw [hg]; exact g) (mg_none_of G.K g (e w)) (by rw [hb]; exact b) ((hb' x hn).trans hv) ⟨hp _, .refl _⟩) hd

theorem ev_cstr {k : Nat} : EV f w A env ρ (.Constant (.str x) k pos) (R (.str x)) := fun s G F E => Constant_str ⟨.str _ _, .toks⟩
theorem ev_cint {i : Int} {k : Nat} : EV f w A env ρ (.Constant (.int i) k pos) (R (.int i)) := fun s G F E => wpAny_Constant_int ⟨.int _ _, .toks⟩
theorem ev_cnone {k : Nat} : EV f w A env ρ (.Constant .none k pos) (R .none) := fun s G F E => wpAny_pure ⟨.none, .refl _⟩
theorem ev_cbool {b : Bool} {k : Nat} : EV f w A env ρ (.Constant (.bool b) k pos) (R (.bool b)) := fun s G F E => wpAny_pure ⟨.bool b, .refl _⟩

theorem ev_bin {op : Operator} (hl : EV f w A env ρ l P1) (hr : EV f w A env ρ r P2) (ho : ∀ s a b, Gd w s.heap → P1.P s.heap a → P2.P s.heap b → Ev f w A (binaryOp op a b) P.P s) : EV f w A env ρ (.BinOp l op r pos) P := fun s G F E =>
  wpAny_BinOp (wpAny_mono (hl s G F E) (fun a s₁ h₁ => wpAny_mono (hr s₁ (G.kp h₁.2.kp) (F.kp h₁.2.kp G.tb) E) (fun b s₂ h₂ =>
    wpAny_mono (ho s₂ a b ((G.kp h₁.2.kp).kp h₂.2.kp) (P1.mono (G.kp h₁.2.kp).tb h₂.2.kp.up h₁.1) h₂.1 E) (fun v s₃ h₃ => ⟨h₃.1, (h₁.2.trans h₂.2).trans h₃.2⟩) fun _ _ e => e) fun _ _ e => e) fun _ _ e => e)
theorem ev_cmp {op : CmpOp} (hl : EV f w A env ρ l P1) (hr : EV f w A env ρ r P2) (ho : ∀ s a b, Gd w s.heap → P1.P s.heap a → P2.P s.heap b → Ev f w A (compareOp op a b) P.P s) (hm : behindInMarks op r = false := by with_unfolding_all rfl) : EV f w A env ρ (.Compare l [op] [r] pos) P := fun s G F E =>
  wpAny_Compare1 (wpAny_mono (hl s G F E) (fun a s₁ h₁ => wpAny_mono (hr s₁ (G.kp h₁.2.kp) (F.kp h₁.2.kp G.tb) E) (fun b s₂ h₂ =>
    wpAny_mono (ho s₂ a b ((G.kp h₁.2.kp).kp h₂.2.kp) (P1.mono (G.kp h₁.2.kp).tb h₂.2.kp.up h₁.1) h₂.1 E) (fun v s₃ h₃ => ⟨h₃.1, (h₁.2.trans h₂.2).trans h₃.2⟩) fun _ _ e => e) fun _ _ e => e) fun _ _ e => e) hm
theorem eb_cmp {op : CmpOp} {b : Bool} (hl : EV f w A env ρ l P1) (hr : EV f w A env ρ r P2) (ho : ∀ s a c, Gd w s.heap → P1.P s.heap a → P2.P s.heap c → Ev f w A (compareOp op a c) (R (.bool b)).P s) (hm : behindInMarks op r = false := by with_unfolding_all rfl) : EB f w A env ρ (.Compare l [op] [r] pos) b := fun s G F E =>
  wpAny_isTrue_Compare1 (wpAny_mono (hl s G F E) (fun a s₁ h₁ => wpAny_mono (hr s₁ (G.kp h₁.2.kp) (F.kp h₁.2.kp G.tb) E) (fun b s₂ h₂ =>
    wpAny_mono (ho s₂ a b ((G.kp h₁.2.kp).kp h₂.2.kp) (P1.mono (G.kp h₁.2.kp).tb h₂.2.kp.up h₁.1) h₂.1 E) (fun v s₃ h₃ => by
      have hb : Rp s₃.heap v (.bool _) := h₃.1
      cases hb
      exact wpAny_truthy_bool ⟨rfl, (h₁.2.trans h₂.2).trans h₃.2⟩) fun _ _ e => e) fun _ _ e => e) fun _ _ e => e) hm
theorem eb_not {b : Bool} (h : EB f w A env ρ e b) : EB f w A env ρ (.UnaryOp .Not e pos) (!b) := fun s G F E =>
  isTrue_not (wpAny_mono (h s G F E) (fun c s' hc => ⟨by rw [hc.1], hc.2⟩) fun _ _ e => e)
theorem eb_and2 {a b : Bool} (h1 : EB f w A env ρ l a) (h2 : a = true → EB f w A env ρ r b) : EB f w A env ρ (.BoolOp .And [l, r] pos) (a && b) := fun s G F E =>
  isTrue_and (wpAny_mono (h1 s G F E) (fun c s' hc => by
    obtain ⟨e, k⟩ := hc
    cases e
    cases a with
    | false => exact ⟨rfl, k⟩
    | true => exact isTrue_and (wpAny_mono (h2 rfl s' (G.kp k.kp) (F.kp k.kp G.tb) E) (fun c s'' hc => by
        obtain ⟨e, k'⟩ := hc
        cases e
        cases b with
        | false => exact ⟨rfl, k.trans k'⟩
        | true => exact isTrue_and_nil (pos := pos) (whole := eval (.BoolOp .And [] pos) env) ⟨rfl, k.trans k'⟩) fun _ _ e => e)) fun _ _ e => e)
theorem eb_or2 {a b : Bool} (h1 : EB f w A env ρ l a) (h2 : a = false → EB f w A env ρ r b) : EB f w A env ρ (.BoolOp .Or [l, r] pos) (a || b) := fun s G F E =>
  isTrue_or (wpAny_mono (h1 s G F E) (fun c s' hc => by
    obtain ⟨e, k⟩ := hc
    cases e
    cases a with
    | true => exact ⟨rfl, k⟩
    | false => exact isTrue_or (wpAny_mono (h2 rfl s' (G.kp k.kp) (F.kp k.kp G.tb) E) (fun c s'' hc => by
        obtain ⟨e, k'⟩ := hc
        cases e
        cases b with
        | true => exact ⟨rfl, k.trans k'⟩
        | false => exact isTrue_or_nil (pos := pos) (whole := eval (.BoolOp .Or [] pos) env) ⟨rfl, k.trans k'⟩) fun _ _ e => e)) fun _ _ e => e)
theorem eb_val {b : Bool} (h : EV f w A env ρ e P) (ht : ∀ s v, Gd w s.heap → P.P s.heap v → Ev f w A (truthy v) (fun _ c => c = b) s) (he : ∀ whole, isTrue e env whole = (do let v ← whole; standAt e.pos; holding [v] (truthy v)) := by intro _; rfl) : EB f w A env ρ e b := fun s G F E =>
  isTrue_plain (wpAny_mono (h s G F E) (fun v s₁ h₁ => wpAny_mono (ht s₁ v (G.kp h₁.2.kp) h₁.1 E) (fun c s₂ h₂ => ⟨h₂.1, h₁.2.trans h₂.2⟩) fun _ _ e => e) fun _ _ e => e) (he _)
theorem eb_bool {b : Bool} (h : EV f w A env ρ e (R (.bool b))) (he : ∀ whole, isTrue e env whole = (do let v ← whole; standAt e.pos; holding [v] (truthy v)) := by intro _; rfl) : EB f w A env ρ e b :=
  eb_val h (fun s v G r E => by
    have r : Rp s.heap v (.bool b) := r
    cases r
    exact wpAny_truthy_bool ⟨rfl, .refl _⟩) he
theorem EB.cast {b c : Bool} (h : EB f w A env ρ e b) (q : b = c) : EB f w A env ρ e c := q ▸ h
theorem EV.cast {p q : PV} (h : EV f w A env ρ e (R p)) (k : p = q) : EV f w A env ρ e (R q) := k ▸ h

/-- several expressions -/
def SPs (h : Heap) : List Value → List SP → Prop
  | [], [] => True
  | v :: vs, P :: Ps => P.P h v ∧ SPs h vs Ps
  | _, _ => False
theorem SPs.kp {f : Bool} {h h' : Heap} (t : Tb h) (k : Kp f h h') : ∀ {vs : List Value} {Ps : List SP}, SPs h vs Ps → SPs h' vs Ps
  | [], [], _ => trivial
  | _ :: _, P :: _, ⟨a, b⟩ => ⟨P.mono t k.up a, SPs.kp t k b⟩
theorem SPs.rps {h : Heap} : ∀ {vs : List Value} {ps : List PV}, SPs h vs (ps.map R) → Rps h vs ps
  | [], [], _ => .nil
  | _ :: _, _ :: _, ⟨a, b⟩ => .cons a (SPs.rps b)
def EVs (f : Bool) (w : World) (A : Around) (env : Env) (ρ : Ro) (es : List PySem.Expr) (Ps : List SP) : Prop :=
  ∀ s pos, Gd w s.heap → FrV env s.heap ρ → Ev f w A (spliced (backTo pos (starEach es env))) (fun h vs => SPs h vs Ps) s
theorem evs_nil : EVs f w A env ρ [] [] := fun s pos G F E => spliced_nil ⟨trivial, .refl _⟩
theorem evs_cons {es : List PySem.Expr} {Ps : List SP} (h : EV f w A env ρ e P) (hs : EVs f w A env ρ es Ps) (he : starEach (e :: es) env = (false, eval e env) :: starEach es env := by rfl) : EVs f w A env ρ (e :: es) (P :: Ps) := fun s pos G F E => by
  rw [he]
  show wpAny _ _ (spliced ((false, eval e env) :: backTo pos (starEach es env))) _ _ _
  exact spliced_cons (wpAny_mono (h s G F E) (fun v s₁ h₁ => wpAny_mono (hs s₁ pos (G.kp h₁.2.kp) (F.kp h₁.2.kp G.tb) E) (fun vs s₂ h₂ => ⟨⟨P.mono (G.kp h₁.2.kp).tb h₂.2.kp.up h₁.1, h₂.1⟩, h₁.2.trans h₂.2⟩) fun _ _ e => e) fun _ _ e => e)
theorem ev_list {es : List PySem.Expr} {ps : List PV} (h : EVs f w A env ρ es (ps.map R)) (hz : ps.length ≤ 1000000) : EV f w A env ρ (.List es pos) (R (.list ps)) := fun s G F E =>
  List_ (wpAny_mono (h s _ G F E) (fun vs s₁ h₁ => wpAny_newObj_type (by
    refine ⟨?_, h₁.2.trans .push'⟩
    have r := h₁.1.rps
    exact .list (G.kp h₁.2.kp).sz ⟨_, Heap.get?_push_size _ rfl⟩ (Rps.kp (f := false) (.of_keeps fun _ _ e => Heap.get?_push_of_some _ e) (G.kp h₁.2.kp).tb r)) (by
      have := h₁.1.rps.length
      show vs.toArray.size ≤ sizeLine
      rw [List.size_toArray, this, sizeLine_eq]; omega)) fun _ _ e => e)

/-- a call of a function of the text's: its contract -/
theorem ev_call {es : List PySem.Expr} {a : Addr} {args : List PV} {res : PV} {n : Nat} {fe : PySem.Expr} {e0 : PySem.Expr} (hR : Room n A) (hf : EV f w A env ρ fe (R (.obj a))) (hk : ∀ w : World, keepIn (KK w.params) (.ref a) = true) (h : EVs f w A env ρ (e0 :: es) (args.map R)) (S : SpecOf f w n a args res)
    (hc : ∀ k, eval (.Call fe (e0 :: es) k pos) env = (do callWith pos (← eval fe env) [] (backTo pos (starEach (e0 :: es) env)) (backToKw pos (keywordEach k env))) := by intro _; rfl)
    (he : starEach (e0 :: es) env = (false, eval e0 env) :: starEach es env := by rfl) (hplain : (backTo pos (starEach es env)).any (·.1) = false := by rfl) :
    EV f w A env ρ (.Call fe (e0 :: es) [] pos) (R res) := fun s G F E => by
  rw [hc]
  refine wpAny_bind (wpAny_mono (hf s G F E) (fun v s₁ h₁ => ?_) fun _ _ e => e)
  have r : Rp s₁.heap v (.obj a) := h₁.1
  have G₁ := G.kp h₁.2.kp
  cases r
  refine callWith_K (h₀ := s₁.heap) G₁.K (hk w) (wpAny_mono (h s₁ pos G₁ (F.kp h₁.2.kp G.tb) E) (fun vs s₂ h₂ => ?_) fun _ _ e => e) he hplain
  have G₂ := G₁.kp h₂.2.kp
  exact ⟨G₂.K, wpAny_mono (S A s₂ ([] ++ vs) hR G₂ h₂.1.rps E) (fun r s₃ h₃ => ⟨h₃.1, (h₁.2.trans h₂.2).trans h₃.2⟩) fun _ _ e => e⟩
/-- a call of a built-in -/
theorem ev_callb {es : List PySem.Expr} {id : String} {Ps : List SP} {fe : PySem.Expr} {e0 : PySem.Expr} (hf : EV f w A env ρ fe (R (.bi id))) (h : EVs f w A env ρ (e0 :: es) Ps) (S : ∀ s vs, Gd w s.heap → SPs s.heap vs Ps → Ev f w A (call (.builtin id) vs) P.P s)
    (hc : ∀ k, eval (.Call fe (e0 :: es) k pos) env = (do callWith pos (← eval fe env) [] (backTo pos (starEach (e0 :: es) env)) (backToKw pos (keywordEach k env))) := by intro _; rfl)
    (he : starEach (e0 :: es) env = (false, eval e0 env) :: starEach es env := by rfl) (hplain : (backTo pos (starEach es env)).any (·.1) = false := by rfl) :
    EV f w A env ρ (.Call fe (e0 :: es) [] pos) P := fun s G F E => by
  rw [hc]
  refine wpAny_bind (wpAny_mono (hf s G F E) (fun v s₁ h₁ => ?_) fun _ _ e => e)
  have r : Rp s₁.heap v (.bi id) := h₁.1
  have G₁ := G.kp h₁.2.kp
  cases r
  refine callWith_method1 (wpAny_mono (h s₁ pos G₁ (F.kp h₁.2.kp G.tb) E) (fun vs s₂ h₂ => ?_) fun _ _ e => e) he hplain
  exact wpAny_mono (S s₂ ([] ++ vs) (G₁.kp h₂.2.kp) h₂.1 E) (fun r s₃ h₃ => ⟨h₃.1, (h₁.2.trans h₂.2).trans h₃.2⟩) fun _ _ e => e
/-- a method of a built-in type's, its arguments by place -/
theorem ev_meth {es : List PySem.Expr} {id : String} {Ps : List SP} {o e0 : PySem.Expr} {name : Str} {apos : Pos} {pl : Sem Bool} (ho : EV f w A env ρ o P1) (hm : ∀ s v, Gd w s.heap → P1.P s.heap v → ∀ Q E, Q (Value.builtin id, [v]) s → wpAny (model prg w) A (getMethod v name pl) Q E s)
    (h : EVs f w A env ρ (e0 :: es) Ps) (S : ∀ s v vs, Gd w s.heap → P1.P s.heap v → SPs s.heap vs Ps → Ev f w A (call (.builtin id) (v :: vs)) P.P s)
    (hc : eval (.Call (.Attribute o name apos) (e0 :: es) [] pos) env = (do
      let ov ← eval o env
      standAt apos.atName
      let (f, first) ← holding [ov] (getMethod ov name pl)
      callWith pos f first (backTo pos (starEach (e0 :: es) env)) []) := by rfl)
    (he : starEach (e0 :: es) env = (false, eval e0 env) :: starEach es env := by rfl) (hplain : (backTo pos (starEach es env)).any (·.1) = false := by rfl) :
    EV f w A env ρ (.Call (.Attribute o name apos) (e0 :: es) [] pos) P := fun s G F E => by
  refine MethodCall_ (pl := pl) (wpAny_mono (ho s G F E) (fun v s₁ h₁ => ?_) fun _ _ e => e) hc
  have G₁ := G.kp h₁.2.kp
  refine hm s₁ v G₁ h₁.1 _ _ ?_
  refine callWith_method1 (wpAny_mono (h s₁ pos G₁ (F.kp h₁.2.kp G.tb) E) (fun vs s₂ h₂ => ?_) fun _ _ e => e) he hplain
  exact wpAny_mono (S s₂ v vs (G₁.kp h₂.2.kp) (P1.mono G₁.tb h₂.2.kp.up h₁.1) h₂.1 E) (fun r s₃ h₃ => ⟨h₃.1, (h₁.2.trans h₂.2).trans h₃.2⟩) fun _ _ e => e
theorem ev_meth0 {id : String} {o : PySem.Expr} {name : Str} {apos : Pos} {pl : Sem Bool} (ho : EV f w A env ρ o P1) (hm : ∀ s v, Gd w s.heap → P1.P s.heap v → ∀ Q E, Q (Value.builtin id, [v]) s → wpAny (model prg w) A (getMethod v name pl) Q E s)
    (S : ∀ s v, Gd w s.heap → P1.P s.heap v → Ev f w A (call (.builtin id) [v]) P.P s)
    (hc : eval (.Call (.Attribute o name apos) [] [] pos) env = (do
      let ov ← eval o env
      standAt apos.atName
      let (f, first) ← holding [ov] (getMethod ov name pl)
      callWith pos f first (backTo pos (starEach [] env)) []) := by rfl) :
    EV f w A env ρ (.Call (.Attribute o name apos) [] [] pos) P := fun s G F E => by
  refine MethodCall_ (pl := pl) (wpAny_mono (ho s G F E) (fun v s₁ h₁ => ?_) fun _ _ e => e) hc
  have G₁ := G.kp h₁.2.kp
  refine hm s₁ v G₁ h₁.1 _ _ ?_
  exact callWith_method0 (wpAny_mono (S s₁ v G₁ h₁.1 E) (fun r s₃ h₃ => ⟨h₃.1, h₁.2.trans h₃.2⟩) fun _ _ e => e)
theorem ev_sub {value slice : PySem.Expr} (hv : EV f w A env ρ value P1) (hs : EV f w A env ρ slice P2) (ht : ∀ s a b, Gd w s.heap → P1.P s.heap a → P2.P s.heap b → Ev f w A (subscriptTail value slice a b) P.P s) : EV f w A env ρ (.Subscript value slice pos) P := fun s G F E =>
  Subscript_ (wpAny_mono (hv s G F E) (fun a s₁ h₁ => wpAny_mono (hs s₁ (G.kp h₁.2.kp) (F.kp h₁.2.kp G.tb) E) (fun b s₂ h₂ =>
    wpAny_mono (ht s₂ a b ((G.kp h₁.2.kp).kp h₂.2.kp) (P1.mono (G.kp h₁.2.kp).tb h₂.2.kp.up h₁.1) h₂.1 E) (fun v s₃ h₃ => ⟨h₃.1, (h₁.2.trans h₂.2).trans h₃.2⟩) fun _ _ e => e) fun _ _ e => e) fun _ _ e => e)
end
end Mine

/- L3 -/
open PySem PySem.Spec PySem.Calls PySem.W PyProof.Rows
namespace Mine

def Off (own : List Addr) (P : SP) : Prop := ∀ b ∈ own, b ∉ P.base
theorem off_any {own : List Addr} {P : SP} (h : P.base = [] := by rfl) : Off own P := fun b _ q => by rw [h] at q; cases q
theorem off_R {own : List Addr} {p : PV} : Off own (R p) := off_any
def Offs (own : List Addr) (ρ : Ro) : Prop := ∀ x P, ρ.lookup x = some P → Off own P
theorem offs_nil {own : List Addr} : Offs own [] := fun _ _ e => by cases e
theorem offs_cons {own : List Addr} {ρ : Ro} {x : Str} {P : SP} (a : Off own P) (b : Offs own ρ) : Offs own ((x, P) :: ρ) := fun y Q e => by
  rw [List.lookup_cons] at e
  cases h : y == x with
  | true => rw [h] at e; cases e; exact a
  | false => rw [h] at e; exact b y Q e

def ownOf (env : Env) : List Addr := env.locals :: env.cells.map (·.2)
structure FrS (env : Env) (g h : Heap) (ρ : Ro) : Prop where
  loc : ∃ m, h.Ns env.locals m
  cel : ∀ x c, (x, c) ∈ env.cells → ∃ v, h.IsCell c v
  fresh : ∀ b ∈ ownOf env, g.get? b = none
  apart : env.cells.Pairwise fun x y => x.2 ≠ y.2
  ne : ∀ x c, (x, c) ∈ env.cells → c ≠ env.locals
  vars : FrV env h ρ
  offs : Offs (ownOf env) ρ

theorem FrS.fr {env : Env} {g h : Heap} {ρ : Ro} (F : FrS env g h ρ) : ∀ b ∈ ownOf env, ∃ o, h.get? b = some o ∧ frameish o := fun b hb => by
  rcases List.mem_cons.mp hb with rfl | hb
  · obtain ⟨m, o, es, ep, e, hd, _⟩ := F.loc
    exact ⟨o, e, .inl ⟨_, _, hd⟩⟩
  · obtain ⟨⟨x, c⟩, hm, rfl⟩ := List.mem_map.mp hb
    obtain ⟨v, o, e, hd⟩ := F.cel x c hm
    exact ⟨o, e, .inr (.inl ⟨_, hd⟩)⟩
theorem FrS.kp {f : Bool} {env : Env} {g h h' : Heap} {ρ : Ro} (F : FrS env g h ρ) (k : Kp f h h') (t : Tb h) : FrS env g h' ρ where
  loc := let ⟨m, e⟩ := F.loc; ⟨m, Ns.kp e k t⟩
  cel := fun x c hm => let ⟨v, e⟩ := F.cel x c hm; ⟨v, IsCell.kp e k t⟩
  fresh := F.fresh
  apart := F.apart
  ne := F.ne
  vars := F.vars.kp k t
  offs := F.offs
theorem Tb.st {own : List Addr} {h h' : Heap} (k : St own h h') (t : Tb h) : Tb h' := by
  have tn : ∀ ps, ¬ frameish (tabObj ps) := fun ps q => by
    rcases q with ⟨_, _, q⟩ | ⟨_, q⟩ | ⟨q, _⟩
    · cases q
    · cases q
    · obtain ⟨T, _, q⟩ := q
      cases q
  refine ⟨?_, ?_⟩
  · rcases t.1 with e | ⟨c', e, ⟨c, o, vs, tt, e1, e2, e3, e4⟩, z⟩
    · exact .inl (k.get e (tn _))
    · exact .inr ⟨c', k.get e (tn _), ⟨c, o, vs, tt, e1, k.get e2 (fun q => by
      rcases q with ⟨_, _, q⟩ | ⟨_, q⟩ | ⟨_, q⟩
      · rw [e3] at q; cases q
      · rw [e3] at q; cases q
      · exact q _ e3 _ _ e4), e3, e4⟩, z⟩
  · obtain ⟨ps, e⟩ := t.2
    exact ⟨ps, k.get e (tn _)⟩
theorem Kp.st {f : Bool} {own : List Addr} {g h h' : Heap} (a : Kp f g h) (k : St own h h') (n : ∀ b ∈ own, g.get? b = none) : Kp f g h' :=
  ⟨fun b o n1 n2 e => k.keep b o (fun q => by rw [n b q] at e; cases e) (a.keep b o n1 n2 e), fun t => Tb.st k (a.tb t)⟩

def Rest (s s' : Shared) : Prop := ∃ h' tk gs, s' = { s with heap := h', toks := tk, gens := gs } ∧ (AllBare s.gens → AllBare gs)
theorem Rest.refl (s : Shared) : Rest s s := ⟨_, _, _, rfl, id⟩
theorem Rest.trans {a b c : Shared} : Rest a b → Rest b c → Rest a c := by
  rintro ⟨h1, t1, g1, rfl, b1⟩ ⟨h2, t2, g2, rfl, b2⟩
  exact ⟨h2, t2, g2, rfl, fun b => b2 (b1 b)⟩
theorem Rest.of {s : Shared} {h' : Heap} {tk : Nat} : Rest s { s with heap := h', toks := tk } := ⟨_, _, _, rfl, id⟩
theorem Rest.ofH {s : Shared} {h' : Heap} : Rest s { s with heap := h' } := ⟨_, s.toks, _, rfl, id⟩

/-- on from s: all that stood is kept, but the frame's own and the tables -/
structure RO (f : Bool) (own : List Addr) (s s' : Shared) : Prop where
  ex : Rest s s'
  keep : ∀ b o, b ∉ own → b ≠ 116 → (f = true → b ≠ 83) → s.heap.get? b = some o → s'.heap.get? b = some o
theorem RO.refl {f : Bool} {own : List Addr} (s : Shared) : RO f own s s := ⟨.refl _, fun _ _ _ _ _ e => e⟩
theorem RO.trans {f : Bool} {own : List Addr} {a b c : Shared} (x : RO f own a b) (y : RO f own b c) : RO f own a c := ⟨x.ex.trans y.ex, fun b o n1 n2 n3 e => y.keep b o n1 n2 n3 (x.keep b o n1 n2 n3 e)⟩
theorem RO.of {f : Bool} {own : List Addr} {s s' : Shared} (x : Kps f s s') : RO f own s s' := ⟨x.ex, fun b o _ n2 n3 e => x.kp.keep b o n2 n3 e⟩
theorem RO.sub {f : Bool} {own own' : List Addr} {s s' : Shared} (x : RO f own s s') (h : ∀ b ∈ own, b ∈ own' ∨ s.heap.get? b = none) : RO f own' s s' := ⟨x.ex, fun b o n1 n2 n3 e => x.keep b o (fun q => (h b q).elim n1 fun z => by rw [z] at e; cases e) n2 n3 e⟩
theorem RO.left {f : Bool} {own mu : List Addr} {s s' : Shared} (x : RO f own s s') : RO f (own ++ mu) s s' := x.sub fun b hb => .inl (List.mem_append_left _ hb)

theorem mem_lookup {l : List (Str × Addr)} {x : Str} {c : Addr} (h : l.lookup x = some c) : (x, c) ∈ l := mem_of_lookup h

/-- a store into the frame -/
theorem store_ {f : Bool} {w : World} {A : Around} {env : Env} {g : Heap} {ρ : Ro} {x : Str} {v : Value} {P : SP} {s : Shared} {E : Value → Shared → Prop} {Q : Unit → Shared → Prop} (F : FrS env g s.heap ρ) (K : Kp f g s.heap) (hp : P.P s.heap v) (ho : Off (ownOf env) P)
    (hk : env.scope.kind = .function) (hx : env.kindOf x = some .local ∨ (env.kindOf x = some .cell ∧ (env.cells.lookup x).isSome = true))
    (h : ∀ s', Kp f g s'.heap → FrS env g s'.heap ((x, P) :: ρ) → RO f (ownOf env) s s' → St (ownOf env) s.heap s'.heap → Q () s') : wpAny (model prg w) A (storeName env x v) Q E s := by
  have frame : ∀ (a : Addr) (h' : Heap), a ∈ ownOf env → Heap.SameBut a s.heap h' → St (ownOf env) s.heap h' := fun a h' ha hs =>
    ⟨F.fr, fun b o hb e => hs.extBut b o (fun q => hb (q ▸ ha)) e⟩
  rcases hx with hl | ⟨hl, hc⟩
  · obtain ⟨m, hn⟩ := F.loc
    refine wpAny_storeName_local hl hn (fun h' hn' hs' => ?_) (by rw [hk]; rfl)
    have S := frame _ h' (.head _) hs'
    refine h _ (K.st S F.fresh) ⟨⟨_, hn'⟩, fun y c hm => ?_, F.fresh, F.apart, F.ne, ?_, offs_cons ho F.offs⟩ ⟨.of, fun b o hb _ _ e => S.keep b o hb e⟩ S
    · obtain ⟨u, e⟩ := F.cel y c hm
      exact ⟨u, e.sameBut hs' (F.ne y c hm)⟩
    · intro y sp e
      rw [List.lookup_cons] at e
      cases hy : y == x with
      | true =>
        rw [hy] at e; cases e
        rw [beq_iff_eq.mp hy]
        exact ⟨v, .inl ⟨hl, _, hn', by simp⟩, P.off _ _ _ _ ho S hp⟩
      | false =>
        rw [hy] at e
        have hne : y ≠ x := fun q => by rw [q] at hy; simp at hy
        obtain ⟨u, hv, hu⟩ := F.vars y sp e
        refine ⟨u, ?_, sp.off _ _ _ _ (F.offs y sp e) S hu⟩
        rcases hv with ⟨k, m', n', e'⟩ | ⟨k, c, e', n'⟩
        · have : m' = m := Ns.uniq n' hn
          subst this
          exact .inl ⟨k, _, hn', by simp [hne, e']⟩
        · exact .inr ⟨k, c, e', n'.sameBut hs' (F.ne y c (mem_lookup e'))⟩
  · obtain ⟨c, hc⟩ := Option.isSome_iff_exists.mp hc
    obtain ⟨v₀, hv₀⟩ := F.cel x c (mem_lookup hc)
    have ha : c ∈ ownOf env := List.mem_cons_of_mem _ (List.mem_map.mpr ⟨_, mem_lookup hc, rfl⟩)
    refine wpAny_storeName_cell hk hl hc hv₀ (fun h' hc' hs' => ?_)
    have S := frame _ h' ha hs'
    have cne : ∀ y d, (y, d) ∈ env.cells → y ≠ x → d ≠ c := fun y d hm hne q => hne (name_of_addr F.apart hm (q ▸ mem_lookup hc))
    refine h _ (K.st S F.fresh) ⟨?_, fun y d hm => ?_, F.fresh, F.apart, F.ne, ?_, offs_cons ho F.offs⟩ ⟨.ofH, fun b o hb _ _ e => S.keep b o hb e⟩ S
    · obtain ⟨m, hn⟩ := F.loc
      exact ⟨m, hn.sameBut hs' (F.ne x c (mem_lookup hc)).symm⟩
    · by_cases hd : d = c
      · subst hd; exact ⟨_, hc'⟩
      · obtain ⟨u, e⟩ := F.cel y d hm
        exact ⟨u, e.sameBut hs' hd⟩
    · intro y sp e
      rw [List.lookup_cons] at e
      cases hy : y == x with
      | true =>
        rw [hy] at e; cases e
        rw [beq_iff_eq.mp hy]
        exact ⟨v, .inr ⟨.inl hl, c, hc, hc'⟩, P.off _ _ _ _ ho S hp⟩
      | false =>
        rw [hy] at e
        have hne : y ≠ x := fun q => by rw [q] at hy; simp at hy
        obtain ⟨u, hv, hu⟩ := F.vars y sp e
        refine ⟨u, ?_, sp.off _ _ _ _ (F.offs y sp e) S hu⟩
        rcases hv with ⟨k, m', n', e'⟩ | ⟨k, d, e', n'⟩
        · exact .inl ⟨k, m', n'.sameBut hs' (F.ne x c (mem_lookup hc)).symm, e'⟩
        · exact .inr ⟨k, d, e', n'.sameBut hs' (cne y d (mem_lookup e') hne)⟩

section
variable (f : Bool) (w : World) (A : Around) (env : Env) (g : Heap) (mu : List Addr)
abbrev Post := Flow → Heap → Prop
def XS (ρ : Ro) (stmts : List Stmt) (Q : Post) : Prop := ∀ s, Kp f g s.heap → FrS env g s.heap ρ → ∀ E, wpAny (model prg w) A (execs stmts env) (fun fl s' => Q fl s'.heap ∧ Kp f g s'.heap ∧ RO f (ownOf env ++ mu) s s') E s
def X1 (ρ : Ro) (st : Stmt) (Q : Post) : Prop := ∀ s, Kp f g s.heap → FrS env g s.heap ρ → ∀ E, wpAny (model prg w) A (exec st env) (fun fl s' => Q fl s'.heap ∧ Kp f g s'.heap ∧ RO f (ownOf env ++ mu) s s') E s
end
def retP (P : SP) : Post := fun fl h => ∃ v, fl = .ret v ∧ P.P h v
def nextP (env : Env) (g : Heap) (ρ : Ro) : Post := fun fl h => fl = .next ∧ FrS env g h ρ
/-- a way out by a return, or on to the next statement with ρ -/
def mayP (env : Env) (g : Heap) (ρ : Ro) (P : SP) : Post := fun fl h => retP P fl h ∨ nextP env g ρ fl h

section
variable {f : Bool} {w : World} {A : Around} {env : Env} {g : Heap} {mu : List Addr} {ρ ρ' : Ro} {e l r t : PySem.Expr} {P P1 P2 : SP} {pos pos' : Pos} {x : Str} {Q Q' : Post} {rest body orelse : List Stmt} {st : Stmt}

theorem XS.mono (h : XS f w A env g mu ρ rest Q) (hq : ∀ fl h, Q fl h → Q' fl h) : XS f w A env g mu ρ rest Q' := fun s K F E => wpAny_mono (h s K F E) (fun _ _ x => ⟨hq _ _ x.1, x.2⟩) fun _ _ e => e
theorem xs_nil (h : ∀ h, FrS env g h ρ → Q .next h) : XS f w A env g mu ρ [] Q := fun s K F E => wpAny_execs_nil ⟨h _ F, K, .refl _⟩
theorem xs_one (h : X1 f w A env g mu ρ st (nextP env g ρ')) (hr : XS f w A env g mu ρ' rest Q) : XS f w A env g mu ρ (st :: rest) Q := fun s K F E => by
  refine wpAny_execs_cons (wpAny_mono (h s K F E) (fun fl s' x => ?_) fun _ _ e => e)
  obtain ⟨⟨rfl, F'⟩, K', R'⟩ := x
  exact wpAny_mono (hr s' K' F' E) (fun _ _ y => ⟨y.1, y.2.1, R'.trans y.2.2⟩) fun _ _ e => e
theorem xs_last (h : X1 f w A env g mu ρ st (retP P)) : XS f w A env g mu ρ (st :: rest) (retP P) := fun s K F E => by
  refine wpAny_execs_cons (wpAny_mono (h s K F E) (fun fl s' x => ?_) fun _ _ e => e)
  obtain ⟨⟨v, rfl, p⟩, K', R'⟩ := x
  exact ⟨⟨v, rfl, p⟩, K', R'⟩
/-- a statement that may leave by a return -/
theorem xs_may (h : X1 f w A env g mu ρ st (mayP env g ρ' P)) (hr : XS f w A env g mu ρ' rest Q) (hq : ∀ h v, P.P h v → Q (.ret v) h) : XS f w A env g mu ρ (st :: rest) Q := fun s K F E => by
  refine wpAny_execs_cons (wpAny_mono (h s K F E) (fun fl s' x => ?_) fun _ _ e => e)
  obtain ⟨y, K', R'⟩ := x
  rcases y with ⟨v, rfl, p⟩ | ⟨rfl, F'⟩
  · exact ⟨hq _ _ p, K', R'⟩
  · exact wpAny_mono (hr s' K' F' E) (fun _ _ y => ⟨y.1, y.2.1, R'.trans y.2.2⟩) fun _ _ e => e

theorem EV.run (G : Gd w g) (h : EV f w A env ρ e P) {s : Shared} (K : Kp f g s.heap) (F : FrS env g s.heap ρ) {Q : Value → Shared → Prop} {E : Value → Shared → Prop} (k : ∀ v s', P.P s'.heap v → Kp f g s'.heap → FrS env g s'.heap ρ → Kps f s s' → Q v s') : wpAny (model prg w) A (eval e env) Q E s :=
  wpAny_mono (h s (G.kp K) F.vars E) (fun v s' hv => k v s' hv.1 (K.trans hv.2.kp) (F.kp hv.2.kp (G.kp K).tb) hv.2) fun _ _ e => e
theorem EB.run {b : Bool} (G : Gd w g) (h : EB f w A env ρ e b) {s : Shared} (K : Kp f g s.heap) (F : FrS env g s.heap ρ) {Q : Bool → Shared → Prop} {E : Value → Shared → Prop} (k : ∀ s', Kp f g s'.heap → FrS env g s'.heap ρ → Kps f s s' → Q b s') : wpAny (model prg w) A (isTrue e env (eval e env)) Q E s :=
  wpAny_mono (h s (G.kp K) F.vars E) (fun v s' hv => by
    obtain ⟨e, q⟩ := hv
    cases e
    exact k s' (K.trans q.kp) (F.kp q.kp (G.kp K).tb) q) fun _ _ e => e

theorem x_ret (G : Gd w g) (h : EV f w A env ρ e P) : X1 f w A env g mu ρ (.Return (some e) pos) (retP P) := fun s K F E =>
  wpAny_Return_some (h.run G K F fun v s' p K' F' R' => ⟨⟨v, rfl, p⟩, K', .of R'⟩)
theorem x_set (G : Gd w g) (h : EV f w A env ρ e P) (ho : Off (ownOf env) P) (hx : env.kindOf x = some .local ∨ (env.kindOf x = some .cell ∧ (env.cells.lookup x).isSome = true)) (hk : env.scope.kind = .function := by rfl)
    (hs : swapsWith e (some (.Name x pos')) pos.line env = pure false := by rfl) : X1 f w A env g mu ρ (.Assign [.Name x pos'] e pos) (nextP env g ((x, P) :: ρ)) := fun s K F E =>
  wpAny_Assign_Name (h.run G K F fun v s' p K' F' R' => store_ F' K' p ho hk hx fun s'' K'' F'' R'' _ => ⟨⟨rfl, F''⟩, K'', (RO.of R').trans R''.left⟩) hs
/-- if, a branch decided: its block ends as Q says -/
theorem x_if {b : Bool} (G : Gd w g) (h : EB f w A env ρ t b) (h1 : b = true → XS f w A env g mu ρ body Q) (h2 : b = false → XS f w A env g mu ρ orelse Q) : X1 f w A env g mu ρ (.If t body orelse pos) Q := fun s K F E =>
  wpAny_If (h.run G K F fun s' K' F' R' => by
    cases b with
    | true => exact wpAny_mono (h1 rfl s' K' F' E) (fun _ _ y => ⟨y.1, y.2.1, (RO.of R').trans y.2.2⟩) fun _ _ e => e
    | false => exact wpAny_mono (h2 rfl s' K' F' E) (fun _ _ y => ⟨y.1, y.2.1, (RO.of R').trans y.2.2⟩) fun _ _ e => e)
/-- if t: return ..; rest -/
theorem xs_ifret {b : Bool} (G : Gd w g) (h : EB f w A env ρ t b) (h1 : b = true → XS f w A env g mu ρ body (retP P)) (h2 : b = false → XS f w A env g mu ρ rest (retP P)) : XS f w A env g mu ρ (.If t body [] pos :: rest) (retP P) := by
  cases b with
  | true => exact xs_last (x_if G h h1 (fun q => by cases q))
  | false => exact xs_one (ρ' := ρ) (x_if G h (fun q => by cases q) (fun _ => xs_nil fun h F => ⟨rfl, F⟩)) (h2 rfl)
end

theorem SPs.length {h : Heap} : ∀ {vs : List Value} {Ps : List SP}, SPs h vs Ps → vs.length = Ps.length
  | [], [], _ => rfl
  | _ :: _, _ :: _, ⟨_, b⟩ => by simp [SPs.length b]
theorem Rps.sps {h : Heap} : ∀ {vs : List Value} {ps : List PV}, Rps h vs ps → SPs h vs (ps.map R)
  | _, _, .nil => trivial
  | _, _, .cons a b => ⟨a, b.sps⟩
def SpecOfS (f : Bool) (w : World) (n : Nat) (a : Addr) (args : List SP) (r : SP) : Prop :=
  ∀ A s vs, Room n A → Gd w s.heap → SPs s.heap vs args → Ev f w A (call (.ref a) vs) r.P s
/-- the entry of a def of the text's -/
theorem spec_defAt {f : Bool} {w : World} {n : Nat} {a : Addr} {args : List SP} {res : SP} {fd : FuncData} {body : List Stmt} {names : List Str} {s : Shared}
    (ho : (KK w.params).lookup a = some ⟨.type "function", none, .func fd, #[]⟩) (hcd : codeIn (KK w.params) fd.code fd.qualname = true) (hbody : fd.body = .stmts body)
    (hbind : ∀ vs, vs.length = names.length → Gd w s.heap → BindsTo s fd ⟨vs, []⟩ (names.zip vs)) (hl : names.length = args.length) (hd : names.Nodup)
    (hkind : names.all (fun x => fd.scope.names.lookup x == some .local || fd.scope.names.lookup x == some .cell) = true)
    (h : ∀ A' L, Room n A' → Gd w s.heap → ∀ s₁, Kp false s.heap s₁.heap → FrS (callEnvC fd L a) s.heap s₁.heap (names.zip args) → ∀ E, wpAny (model prg w) A' (execs body (callEnvC fd L a)) (fun fl s' => retP res fl s'.heap ∧ Kp f s.heap s'.heap ∧ RO f (ownOf (callEnvC fd L a) ++ []) s₁ s') E s₁)
    (hnd : ((cellsFrom 0 fd.scope.names []).map (·.1)).Nodup)
    (hclo : fd.closure = [] := by rfl) (hco : fd.scope.isCoroutine = false := by rfl) (hgen : fd.scope.isGenerator = false := by rfl) (hk : fd.scope.kind = .function := by rfl) : ∀ A vs, Room (n + 1) A → Gd w s.heap → SPs s.heap vs args → Ev f w A (call (.ref a) vs) res.P s := by
  intro A vs hR G hvs E
  have hlen : vs.length = names.length := (SPs.length hvs).trans hl.symm
  have hR' : Room n (A.deeper (callEnvC fd s.heap.objs.size a)) := by
    obtain ⟨r1, r2, r3⟩ := hR
    refine ⟨r1, ?_, ?_⟩
    · show A.depth + 1 + n < recursionLimit; omega
    · show A.units + 3 + 8 * n + 8 < cLine; omega
  refine wpAny_call (codeAny_call_function (by have := hR.2.1; omega) (G.K _ _ ho) rfl hco hgen hbody (codeRec_of G.K hcd) (hbind vs hlen G _ _ _ _ ?_))
  rw [hclo]
  have hk2 : ∀ x ∈ names.zip vs, fd.scope.names.lookup x.1 = some .local ∨ (fd.scope.names.lookup x.1 = some .cell ∧ ((cellsFrom (s.heap.objs.size + 1) fd.scope.names []).lookup x.1).isSome = true) := fun x hx => by
    have hm : x.1 ∈ names := (List.of_mem_zip hx).1
    have := List.all_eq_true.mp hkind x.1 hm
    rcases Bool.or_eq_true_iff.mp this with q | q
    · exact .inl (by simpa using q)
    · have q' : fd.scope.names.lookup x.1 = some .cell := by simpa using q
      exact .inr ⟨q', cellsFrom_some _ _ _ (.inl q')⟩
  refine wpAny_newFunctionEnv_cells hk hk2 fun env he s₁ x => ?_
  have he' : env = callEnvC fd s.heap.objs.size a := he
  subst he'
  refine ⟨G.lim.keeps x.toInCall.keep, codeAny_func ?_⟩
  have K₁ : Kp false s.heap s₁.heap := .of_keeps x.toInCall.keep
  have fresh : ∀ b, s.heap.objs.size ≤ b → s.heap.get? b = none := fun b hb => by
    cases q : s.heap.get? b with
    | none => rfl
    | some o => exact absurd (Heap.lt_size q) (Nat.not_lt.mpr hb)
  -- what the binds laid
  have key : ∀ (ns : List Str) (us : List Value) (m cm : Str → Option Value), ns.Nodup → us.length = ns.length →
      (∀ y ∈ ns, fd.scope.names.lookup y = some .local ∨ fd.scope.names.lookup y = some .cell) →
      ∀ y, (y ∈ ns → ∃ (i : Nat) (v : Value), ns[i]? = some y ∧ us[i]? = some v ∧ ((fd.scope.names.lookup y = some .local → bindL (callEnvC fd s.heap.objs.size a).kindOf (ns.zip us) m y = some v) ∧ (fd.scope.names.lookup y = some .cell → bindC (callEnvC fd s.heap.objs.size a).kindOf (ns.zip us) cm y = some v))) ∧
        (y ∉ ns → bindL (callEnvC fd s.heap.objs.size a).kindOf (ns.zip us) m y = m y ∧ bindC (callEnvC fd s.heap.objs.size a).kindOf (ns.zip us) cm y = cm y) := by
    intro ns
    induction ns with
    | nil => intro us m cm _ _ _ y; exact ⟨fun h => (nomatch h), fun _ => ⟨rfl, rfl⟩⟩
    | cons z zs ih =>
      intro us m cm hnd hul hks y
      cases us with
      | nil => simp at hul
      | cons u us =>
        have hnd' := List.nodup_cons.mp hnd
        have hul' : us.length = zs.length := by simpa using hul
        have hz : (callEnvC fd s.heap.objs.size a).kindOf z = fd.scope.names.lookup z := rfl
        simp only [List.zip_cons_cons, bindL, bindC, hz]
        have ih' := fun m cm => ih us m cm hnd'.2 hul' (fun y hy => hks y (.tail _ hy)) y
        refine ⟨fun hy => ?_, fun hy => ?_⟩
        · rcases List.mem_cons.mp hy with rfl | hy
          · refine ⟨0, u, rfl, rfl, ?_, ?_⟩
            · intro hl; rw [if_pos hl]; rw [((ih' _ cm).2 hnd'.1).1]; simp
            · intro hc
              have hn : ¬ (fd.scope.names.lookup y = some .local) := by rw [hc]; decide
              rw [if_neg hn]; rw [((ih' m _).2 hnd'.1).2]; simp
          · obtain ⟨i, v, h1, h2, h3, h4⟩ := (ih' (if fd.scope.names.lookup z = some .local then fun y => if y = z then some u else m y else m) (if fd.scope.names.lookup z = some .local then cm else fun y => if y = z then some u else cm y)).1 hy
            exact ⟨i + 1, v, by simpa using h1, by simpa using h2, h3, h4⟩
        · have hyz : y ≠ z := fun q => hy (q ▸ .head _)
          have hyzs : y ∉ zs := fun q => hy (.tail _ q)
          have := (ih' (if fd.scope.names.lookup z = some .local then fun y => if y = z then some u else m y else m) (if fd.scope.names.lookup z = some .local then cm else fun y => if y = z then some u else cm y)).2 hyzs
          rw [this.1, this.2]
          constructor
          · split <;> simp [hyz]
          · split <;> simp [hyz]
  have look : ∀ (ns : List Str) (us : List Value) (ps : List SP) (y : Str) (sp : SP), us.length = ns.length → SPs s.heap us ps → (ns.zip ps).lookup y = some sp → ns.Nodup → y ∈ ns ∧ ∀ (i : Nat) (v : Value), ns[i]? = some y → us[i]? = some v → sp.P s.heap v := by
    intro ns
    induction ns with
    | nil => intro us ps y sp _ _ e; simp at e
    | cons z zs ih =>
      intro us ps y sp hul hr e hnd
      cases ps with
      | nil => simp at e
      | cons p ps =>
        cases us with
        | nil => exact hr.elim
        | cons u us =>
          obtain ⟨ra, rb⟩ := hr
          simp only [List.zip_cons_cons, List.lookup_cons] at e
          have hnd' := List.nodup_cons.mp hnd
          cases hy : y == z with
          | true =>
            rw [hy] at e; cases e
            have := beq_iff_eq.mp hy
            subst this
            refine ⟨.head _, fun i v h1 h2 => ?_⟩
            cases i with
            | zero => simp at h2; subst h2; exact ra
            | succ i =>
              have : y ∈ zs := List.mem_of_getElem? (by simpa using h1)
              exact absurd this hnd'.1
          | false =>
            rw [hy] at e
            obtain ⟨h1, h2⟩ := ih us ps y sp (by simpa using hul) rb e hnd'.2
            refine ⟨.tail _ h1, fun i v h3 h4 => ?_⟩
            cases i with
            | zero => simp at h3; rw [h3] at hy; simp at hy
            | succ i => exact h2 i v (by simpa using h3) (by simpa using h4)
  have F : FrS (callEnvC fd s.heap.objs.size a) s.heap s₁.heap (names.zip args) := by
    refine ⟨⟨_, x.toInCall.ns⟩, fun y c hm => ?_, fun b hb => ?_, x.apart, fun y c hm => Nat.ne_of_gt (x.above y c hm), ?_, ?_⟩
    · exact ⟨_, x.cell y c (lookup_of_mem_nodup (cellsFrom_names fd.scope.names 0 (s.heap.objs.size + 1) [] [] rfl ▸ hnd) hm)⟩
    · rcases List.mem_cons.mp hb with rfl | hb
      · exact fresh _ (Nat.le_refl _)
      · obtain ⟨⟨y, c⟩, hm, rfl⟩ := List.mem_map.mp hb
        exact fresh _ (Nat.le_of_lt (x.above y c hm))
    · intro y sp e
      obtain ⟨hy, hv⟩ := look names vs args y sp hlen hvs e hd
      have hks : ∀ y ∈ names, fd.scope.names.lookup y = some .local ∨ fd.scope.names.lookup y = some .cell := fun y hy => by
        have := List.all_eq_true.mp hkind y hy
        rcases Bool.or_eq_true_iff.mp this with q | q
        · exact .inl (by simpa using q)
        · exact .inr (by simpa using q)
      obtain ⟨i, v, h1, h2, h3, h4⟩ := (key names vs (fun _ => none) (fun _ => none) hd hlen hks y).1 hy
      refine ⟨v, ?_, sp.mono G.tb K₁.up (hv i v h1 h2)⟩
      rcases hks y hy with q | q
      · exact .inl ⟨q, _, x.toInCall.ns, h3 q⟩
      · obtain ⟨c, hc⟩ := Option.isSome_iff_exists.mp (cellsFrom_some fd.scope.names (s.heap.objs.size + 1) [] (.inl q))
        exact .inr ⟨.inl q, c, hc, by have := x.cell y c hc; rw [h4 q] at this; exact this⟩
    · intro y sp e
      intro b hb hq
      obtain ⟨hy, hv⟩ := look names vs args y sp hlen hvs e hd
      obtain ⟨i, v, h1, h2, _⟩ := (key names vs (fun _ => none) (fun _ => none) hd hlen (fun z hz => by
        have := List.all_eq_true.mp hkind z hz
        rcases Bool.or_eq_true_iff.mp this with q | q
        · exact .inl (by simpa using q)
        · exact .inr (by simpa using q)) y).1 hy
      obtain ⟨o, eo⟩ := sp.inb _ _ (hv i v h1 h2) b hq
      have : s.heap.get? b = none := by
        rcases List.mem_cons.mp hb with rfl | hb
        · exact fresh _ (Nat.le_refl _)
        · obtain ⟨⟨z, c⟩, hm, rfl⟩ := List.mem_map.mp hb
          exact fresh _ (Nat.le_of_lt (x.above z c hm))
      rw [this] at eo; cases eo
  obtain ⟨h₁, tk, e₁⟩ := x.toInCall.same
  refine wpAny_mono (h _ _ hR' G s₁ K₁ F (fun e s' => wpAny (model prg w) (A.deeper (callEnvC fd s.heap.objs.size a)) (leaving (callEnvC fd s.heap.objs.size a) e) (fun _ s'' => E e s'') (fun e' s'' => E e' s'') s')) (fun fl s' hq => ?_) fun _ _ e => e
  obtain ⟨⟨v, rfl, p⟩, K', R'⟩ := hq
  refine ⟨p, ⟨?_, K'⟩⟩
  have R1 : Rest s s₁ := ⟨h₁, tk, _, by rw [e₁], fun b => b⟩
  exact R1.trans R'.ex
/-- the entry of a def of the text's -/
theorem spec_defS {f : Bool} {w : World} {n : Nat} {a : Addr} {args : List SP} {res : SP} {fd : FuncData} {body : List Stmt} {names : List Str}
    (ho : (KK w.params).lookup a = some ⟨.type "function", none, .func fd, #[]⟩) (hcd : codeIn (KK w.params) fd.code fd.qualname = true) (hbody : fd.body = .stmts body)
    (hbind : ∀ s vs, vs.length = names.length → Gd w s.heap → BindsTo s fd ⟨vs, []⟩ (names.zip vs)) (hl : names.length = args.length) (hd : names.Nodup)
    (hkind : names.all (fun x => fd.scope.names.lookup x == some .local || fd.scope.names.lookup x == some .cell) = true)
    (h : ∀ A' L g, Room n A' → Gd w g → XS f w A' (callEnvC fd L a) g [] (names.zip args) body (retP res))
    (hnd : ((cellsFrom 0 fd.scope.names []).map (·.1)).Nodup)
    (hclo : fd.closure = [] := by rfl) (hco : fd.scope.isCoroutine = false := by rfl) (hgen : fd.scope.isGenerator = false := by rfl) (hk : fd.scope.kind = .function := by rfl) : SpecOfS f w (n + 1) a args res := fun A s vs hR G hv => spec_defAt (args := args) (res := res) ho hcd hbody (hbind s) hl hd hkind (fun A' L r G s₁ K₁ F => h A' L s.heap r G s₁ K₁.weak F) hnd hclo hco hgen hk A vs hR G hv
theorem spec_def {f : Bool} {w : World} {n : Nat} {a : Addr} {args : List PV} {res : PV} {fd : FuncData} {body : List Stmt} {names : List Str}
    (ho : (KK w.params).lookup a = some ⟨.type "function", none, .func fd, #[]⟩) (hcd : codeIn (KK w.params) fd.code fd.qualname = true) (hbody : fd.body = .stmts body)
    (hbind : ∀ s vs, vs.length = names.length → Gd w s.heap → BindsTo s fd ⟨vs, []⟩ (names.zip vs)) (hl : names.length = args.length) (hd : names.Nodup)
    (hkind : names.all (fun x => fd.scope.names.lookup x == some .local || fd.scope.names.lookup x == some .cell) = true)
    (h : ∀ A' L g, Room n A' → Gd w g → XS f w A' (callEnvC fd L a) g [] (names.zip (args.map R)) body (retP (R res)))
    (hnd : ((cellsFrom 0 fd.scope.names []).map (·.1)).Nodup)
    (hclo : fd.closure = [] := by rfl) (hco : fd.scope.isCoroutine = false := by rfl) (hgen : fd.scope.isGenerator = false := by rfl) (hk : fd.scope.kind = .function := by rfl) : SpecOf f w (n + 1) a args res := fun A s vs hR G hv => spec_defS (args := args.map R) (res := R res) ho hcd hbody hbind (by simpa using hl) hd hkind h hnd hclo hco hgen hk A s vs hR G hv.sps
end Mine

/- L4 -/
open PySem PySem.Spec PySem.Calls PySem.W PyProof.Rows
namespace Mine

/-- an iterator over the items ps, made anew over the ground g -/
structure Src (f : Bool) (w : World) (A : Around) (g : Heap) (s : Shared) (I : Addr) (ps : List PV) (fp wr : List Addr) (P : Nat → Value → Prop) (St : Nat → Heap → Prop) : Prop where
  W : Walks prg w A I fp wr ps.length P St
  st : St 0 s.heap
  lt : ∀ b ∈ fp, b < s.heap.objs.size
  nt : ∀ b ∈ fp, b ≠ 116 ∧ b ≠ 83
  new : ∀ b ∈ wr, g.get? b = none
  soft : ∀ k h, St k h → ∀ b ∈ wr, ∃ o, h.get? b = some o ∧ frameish o
  fpl : ∀ b ∈ fp, b ∈ wr ∨ ∃ vs, s.heap.PlainList b vs
  nc : ∀ k h, St k h → ∀ b ∈ wr, (∀ q, ¬ h.CodeRec (.ref b) q) ∧ ∀ vs, ¬ h.PlainList b vs
  it : ∀ (i : Nat) v h, i < ps.length → (∀ u q, q ∈ ps → Rp g u q → Rp h u q) → P i v → ∃ p, ps[i]? = some p ∧ Rp h v p
def Iter (f : Bool) (w : World) (A : Around) (P1 : SP) (ps : List PV) : Prop := ∀ s v, Gd w s.heap → P1.P s.heap v → ∀ (E : Value → Shared → Prop) (Q : Value → Shared → Prop),
  (∀ s' I fp wr P St, Src f w A s.heap s' I ps fp wr P St → Kps f s s' → Q (.ref I) s') → wpAny (model prg w) A (pyIter v) Q E s

theorem Tb.lt {h : Heap} (t : Tb h) : 116 < h.objs.size ∧ 83 < h.objs.size := by
  refine ⟨?_, ?_⟩
  · rcases t.1 with e | ⟨c, e, _⟩ <;> exact Heap.lt_size e
  · obtain ⟨ps, e⟩ := t.2; exact Heap.lt_size e
theorem get_none_of_le {h : Heap} {b : Addr} (hb : h.objs.size ≤ b) : h.get? b = none := by
  cases q : h.get? b with
  | none => rfl
  | some o => exact absurd (Heap.lt_size q) (Nat.not_lt.mpr hb)

theorem ne_of {n : Nat} (t : 116 < n ∧ 83 < n) : n ≠ 116 ∧ n ≠ 83 := ⟨by omega, by omega⟩
theorem lt_push {n m : Nat} (h : m = n + 1) : n < m := by omega

theorem iter_list {f : Bool} {w : World} {A : Around} {ps : List PV} (hh : A.handled = none) : Iter f w A (R (.list ps)) ps := fun s v G hv E Q hQ => by
  have hv : Rp s.heap v (.list ps) := hv
  cases hv with
  | list hz hl hr =>
    rename_i a vs
    refine wpAny_pyIter_list hl.isList (hQ _ s.heap.objs.size [s.heap.objs.size, a] [s.heap.objs.size] (fun i v => vs.toArray[i]? = some v) (fun i h => h.IsListIter s.heap.objs.size a i ∧ h.IsList a vs.toArray) ?_ .push')
    have ha : a < s.heap.objs.size := let ⟨n, e⟩ := hl; Heap.lt_size e
    have hne : a ≠ s.heap.objs.size := Nat.ne_of_lt ha
    have hlen : vs.toArray.size = ps.length := by rw [List.size_toArray, hr.length]
    refine ⟨hlen ▸ Walks.list hh s.heap.objs.size a hne vs.toArray, ⟨⟨_, Heap.get?_push_size _ rfl, rfl, rfl⟩, hl.isList.push _⟩, fun b hb => ?_, fun b hb => ?_, fun b hb => ?_, fun k h st b hb => ?_, fun b hb => ?_, fun k h st b hb => ?_, fun i v h hi k e => ?_⟩
    rotate_left 3
    · rw [List.mem_singleton.mp hb]
      obtain ⟨o, e, hc, hd⟩ := st.1
      refine ⟨o, e, .inr (.inr ⟨⟨_, by decide, hc⟩, fun vs q q' t => ?_⟩)⟩
      rw [hd] at q; cases q
      intro z; cases z
    · simp only [List.mem_cons, List.not_mem_nil, or_false] at hb
      rcases hb with rfl | rfl
      · exact .inl (by simp)
      · obtain ⟨n, e⟩ := hl
        exact .inr ⟨_, n, Heap.get?_push_of_some _ e⟩
    rotate_right 3
    · rw [Heap.size_push]
      simp only [List.mem_cons, List.not_mem_nil, or_false] at hb
      rcases hb with rfl | rfl
      · exact Nat.lt_succ_self _
      · exact Nat.lt_succ_of_lt ha
    · have := G.tb.lt
      simp only [List.mem_cons, List.not_mem_nil, or_false] at hb
      rcases hb with rfl | rfl
      · exact ne_of this
      · obtain ⟨n, e⟩ := hl
        refine ⟨fun q => ?_, fun q => ?_⟩
        · subst q
          rcases G.tb.1 with y | ⟨c', y, _⟩ <;> (rw [e] at y; cases y)
        · subst q
          obtain ⟨ps, y⟩ := G.tb.2
          rw [e] at y; cases y
    · simp only [List.mem_cons, List.not_mem_nil, or_false] at hb
      subst hb
      exact get_none_of_le (Nat.le_refl _)
    · rw [List.mem_singleton.mp hb]
      obtain ⟨o, e, hc, hd⟩ := st.1
      refine ⟨fun q ⟨c, o', vs, t, e1, e2, e3, e4⟩ => ?_, fun vs ⟨n, e1⟩ => ?_⟩
      · cases e1; rw [e] at e2; cases e2; rw [hd] at e3; cases e3; cases e4
      · rw [e] at e1; cases e1; cases hd
    · refine ⟨ps[i], by simp [hi], ?_⟩
      obtain ⟨u, e', r⟩ := hr.get (i := i) (p := ps[i]) (by simp [hi])
      have : v = u := by simp [e'] at e; exact e.symm
      subst this
      exact k _ _ (by simp) r

/-- the signs of a text -/
def signs (x : Str) : List Str := x.cps.toList.map fun c => ⟨#[c]⟩
theorem iter_str {f : Bool} {w : World} {A : Around} {x : Str} (hh : A.handled = none) : Iter f w A (R (.str x)) ((signs x).map .str) := fun s v G hv E Q hQ => by
  have hv : Rp s.heap v (.str x) := hv
  cases hv with
  | str _ t =>
    have hlen : x.cps.size = ((signs x).map PV.str).length := by simp [signs]
    have src : ∀ (o : Obj) (St : Nat → Heap → Prop), Walks prg w A s.heap.objs.size [s.heap.objs.size] [s.heap.objs.size] x.cps.size (SignAt x) St → St 0 (s.heap.push o) → (∀ k h, St k h → ∃ ty, ty ∈ softTypes ∧ h.IsStrIter s.heap.objs.size ty x t k) →
        Src f w A s.heap { s with heap := s.heap.push o } s.heap.objs.size ((signs x).map .str) [s.heap.objs.size] [s.heap.objs.size] (SignAt x) St := fun o St W st hty => by
      refine ⟨hlen ▸ W, st, fun b hb => ?_, fun b hb => ?_, fun b hb => ?_, fun k h st b hb => ?_, fun b hb => .inl hb, fun k h st b hb => ?_, fun i v h hi k e => ?_⟩
      rotate_left 3
      · rw [List.mem_singleton.mp hb]
        obtain ⟨ty, hty', o, e, hc, hd⟩ := hty k h st
        refine ⟨o, e, .inr (.inr ⟨⟨_, hty', hc⟩, fun vs q q' t => ?_⟩)⟩
        rw [hd] at q; cases q
        intro z; cases z
      rotate_right 3
      · rw [List.mem_singleton.mp hb]
        show _ < (s.heap.push o).objs.size
        rw [Heap.size_push]; omega
      · have := G.tb.lt
        have hb' := List.mem_singleton.mp hb
        exact hb' ▸ ne_of this
      · rw [List.mem_singleton.mp hb]
        exact get_none_of_le (Nat.le_refl _)
      · rw [List.mem_singleton.mp hb]
        obtain ⟨ty, _, o, e, hc, hd⟩ := hty k h st
        refine ⟨fun q ⟨c, o', vs, t, e1, e2, e3, e4⟩ => ?_, fun vs ⟨n, e1⟩ => ?_⟩
        · cases e1; rw [e] at e2; cases e2; rw [hd] at e3; cases e3; cases e4
        · rw [e] at e1; cases e1; cases hd
      · obtain ⟨c, u, e1, rfl⟩ := e
        refine ⟨.str ⟨#[c]⟩, ?_, .str _ _⟩
        show ((signs x).map PV.str)[i]? = _
        simp [signs, e1]
    cases ha : x.cps.all (· < 128)
    · exact wpAny_pyIter_wide ha (hQ _ _ _ _ _ _ (src _ _ (Walks.strWide hh _ x t) ⟨_, Heap.get?_push_size _ rfl, rfl, rfl⟩ fun k h st => ⟨_, by decide, st⟩) .push')
    · exact wpAny_pyIter_ascii ha (hQ _ _ _ _ _ _ (src _ _ (Walks.strAscii hh _ x t) ⟨_, Heap.get?_push_size _ rfl, rfl, rfl⟩ fun k h st => ⟨_, by decide, st⟩) .push')

/-- a range by ones -/
def RR (a b : Int) : SP := .mk0 (fun h v => ∃ r t u k, v = .ref r ∧ IsRange h r a b 1 t u k) (fun t k ⟨r, t', u, q, e, i⟩ => ⟨r, t', u, q, e, k.get t i (fun ps q => by cases q)⟩) (fun _ _ _ _ k ⟨r, t', u, q, e, i⟩ => ⟨r, t', u, q, e, k.get i (not_frameish (T := "range") rfl (fun _ _ q => by cases q) (fun _ q => by cases q))⟩)
def upFrom (a : Int) (n : Nat) : List Int := (List.range n).map fun i => a + (i : Nat)
def IterR (f : Bool) (w : World) (A : Around) (P1 : SP) (ps : List PV) : Prop := ∀ s v, Gd w s.heap → P1.P s.heap v → ∀ (E : Value → Shared → Prop) (Q : Value → Shared → Prop),
  (∀ s' I P St, Src f w A s.heap s' I ps [I] [I] P St → s.heap.get? I = none → Kps f s s' → Q (.ref I) s') → wpAny (model prg w) A (pyIter v) Q E s
theorem IterR.iter {f : Bool} {w : World} {A : Around} {P1 : SP} {ps : List PV} (h : IterR f w A P1 ps) : Iter f w A P1 ps := fun s v G hv E Q hQ => h s v G hv E Q fun s' I P St S _ k => hQ s' I _ _ P St S k
theorem iter_rangeR {f : Bool} {w : World} {A : Around} {a b : Int} {n : Nat} (hh : A.handled = none) (hn : b = a + n) (ha : -1000000 ≤ a) (ha2 : a ≤ 1000000) (hb : n ≤ 1000000) : IterR f w A (RR a b) ((upFrom a n).map .int) := fun s v G hv E Q hQ => by
  obtain ⟨r, t, u, k, rfl, hr⟩ := hv
  have hsz : Builtin.Range.rangeSize a b 1 = n := by
    unfold Builtin.Range.rangeSize
    subst hn
    simp
    omega
  have hfit : ∀ i : Int, -3000000 ≤ i → i ≤ 3000000 → Builtin.Range.rangeFitsLong i = true := fun i h1 h2 => by
    unfold Builtin.Range.rangeFitsLong
    simp
    omega
  refine wpAny_pyIter_range hr ?_ (hQ _ _ (fun i v => ∃ t, v = .int (a + i * 1) t) (fun i h => IsRangeIter h s.heap.objs.size (a + (i : Nat) * 1) ((n : Int) - (i : Nat)) 1) ?_ (get_none_of_le (Nat.le_refl _)) .push')
  · unfold Builtin.Range.small
    rw [hsz, hfit a (by omega) (by omega), hfit b (by omega) (by omega), hfit 1 (by omega) (by omega), hfit n (by omega) (by omega)]
    simp
    right
    exact hfit _ (by omega) (by omega)
  · have hlen : n = ((upFrom a n).map PV.int).length := by simp [upFrom]
    refine ⟨hlen ▸ Walks.range hh _ a 1 n, ?_, fun b hb => ?_, fun b hb => ?_, fun b hb => ?_, fun k h st b hb => ?_, fun b hb => .inl hb, fun k h st b hb => ?_, fun i v h hi k e => ?_⟩
    rotate_left 4
    · rw [List.mem_singleton.mp hb]
      have e : h.get? s.heap.objs.size = _ := st
      refine ⟨_, e, .inr (.inr ⟨⟨_, by decide, rfl⟩, fun vs q q' t => ?_⟩)⟩
      cases q
      try (intro z; cases z)
    rotate_right 4
    · rw [hsz]
      show (s.heap.push _).get? _ = _
      rw [Heap.get?_push_size _ rfl]
      simp
    · rw [List.mem_singleton.mp hb]
      show _ < (s.heap.push _).objs.size
      rw [Heap.size_push]; omega
    · have := G.tb.lt
      have hb' := List.mem_singleton.mp hb
      exact hb' ▸ ne_of this
    · rw [List.mem_singleton.mp hb]
      exact get_none_of_le (Nat.le_refl _)
    · rw [List.mem_singleton.mp hb]
      have e : h.get? s.heap.objs.size = _ := st
      refine ⟨fun q ⟨c, o', vs, t, e1, e2, e3, e4⟩ => ?_, fun vs ⟨n, e1⟩ => ?_⟩
      · cases e1; rw [e] at e2; cases e2; cases e3; cases e4
      · rw [e] at e1; injection e1 with e1; injection e1 with _ _ e3; cases e3
    · obtain ⟨t, rfl⟩ := e
      have hi' : i < n := by rw [hlen]; exact hi
      refine ⟨.int (a + i), ?_, ?_⟩
      · simp [upFrom, hi']
      · rw [Int.mul_one]; exact .int _ _

theorem iter_range {f : Bool} {w : World} {A : Around} {a b : Int} {n : Nat} (hh : A.handled = none) (hn : b = a + n) (ha : -1000000 ≤ a) (ha2 : a ≤ 1000000) (hb : n ≤ 1000000) : Iter f w A (RR a b) ((upFrom a n).map .int) := (iter_rangeR hh hn ha ha2 hb).iter

/-- the block of a comprehension -/
def cEnv (scope : Scope) (cl : List (Str × Addr)) (C : Addr) (env : Env) : Env :=
  { scope := relabel scope env, locals := C, globals := env.globals, cells := cellsFrom (C + 1) scope.names cl, qual := env.qual, func := none, code := env.code, frame := env.frame, builtins := env.builtins }

theorem cellsFrom_mem : ∀ (names : List (Str × NameKind)) (h : Heap) (acc : List (Str × Addr)) (x : Str) (c : Addr), (x, c) ∈ cellsFrom h.objs.size names acc → (x, c) ∈ acc ∨ (h.objs.size ≤ c ∧ (pushCells h names).IsCell c none)
  | [], _, _, _, _, h => .inl h
  | (name, kind) :: r, h, acc, x, c, hm => by
    unfold cellsFrom at hm
    unfold pushCells
    split at hm
    · rename_i hk
      rw [if_pos hk]
      rw [show h.objs.size + 1 = (h.push { cls := .type "cell", data := .cell none }).objs.size from (Heap.size_push _ _).symm] at hm
      rcases cellsFrom_mem r _ _ x c hm with q | ⟨q1, q2⟩
      · rcases List.mem_cons.mp q with e | q
        · cases e
          exact .inr ⟨Nat.le_refl _, ⟨_, pushCells_keeps r _ _ _ (Heap.get?_push_size _ rfl), rfl⟩⟩
        · exact .inl q
      · exact .inr ⟨Nat.le_trans (by rw [Heap.size_push]; omega) q1, q2⟩
    · rename_i hk
      rw [if_neg hk]
      exact cellsFrom_mem r h acc x c hm

theorem newCompEnv {M : Model} {A : Around} {E : Value → Shared → Prop} {s : Shared} {scope : Scope} {globals : Addr} {cl : List (Str × Addr)} {qual : Str} {env : Env} {Q : Env → Shared → Prop}
    (h : ∀ h', (∀ b o, s.heap.get? b = some o → h'.get? b = some o) → h'.Ns s.heap.objs.size (fun _ => none) →
      (∀ x c, (x, c) ∈ cellsFrom (s.heap.objs.size + 1) scope.names cl → (x, c) ∈ cl ∨ (s.heap.objs.size < c ∧ h'.IsCell c none)) →
      Q { scope, locals := s.heap.objs.size, globals, cells := cellsFrom (s.heap.objs.size + 1) scope.names cl, qual, func := none, code := env.code, frame := env.frame, builtins := env.builtins } { s with heap := h' }) :
    wpAny M A (newFunctionEnv scope globals cl [] qual none .none (some env)) Q E s := by
  simp only [newFunctionEnv, Option.isSome_some, if_true]
  refine wpAny_bind (wpAny_alloc ?_)
  refine wpAny_bind (wpAny_layCells _ (fun name kind cells => by cases hkc : kind == NameKind.cell <;> simp [hkc]) _ _ _ _ ?_)
  rw [show ({ s with heap := s.heap.push { cls := .type "dict", data := .dict #[] } } : Shared).heap.objs.size = s.heap.objs.size + 1 from Heap.size_push ..]
  refine wpAny_bind (wpAny_pure (wpAny_pure (h _ (fun b o e => pushCells_keeps _ _ b o (Heap.get?_push_of_some _ e)) ((Heap.Ns.new s.heap (.type "dict")).keeps (pushCells_keeps _ _)) fun x c hm => ?_)))
  have := cellsFrom_mem scope.names (s.heap.push { cls := .type "dict", data := .dict #[] }) cl x c (by rw [Heap.size_push]; exact hm)
  rcases this with q | ⟨q1, q2⟩
  · exact .inl q
  · refine .inr ⟨?_, q2⟩
    rw [Heap.size_push] at q1
    exact q1

theorem Tb.but {h h' : Heap} {wr : List Addr} (t : Tb h) (hk : ∀ b o, b ∉ wr → h.get? b = some o → h'.get? b = some o) (hn : ∀ b ∈ wr, b ≠ 116 ∧ b ≠ 83) (hc : ∀ b ∈ wr, ∀ q, ¬ h.CodeRec (.ref b) q) : Tb h' := by
  refine ⟨?_, ?_⟩
  · rcases t.1 with e | ⟨c', e, r, z⟩
    · exact .inl (hk _ _ (fun q => (hn _ q).1 rfl) e)
    · refine .inr ⟨c', hk _ _ (fun q => (hn _ q).1 rfl) e, ?_, z⟩
      obtain ⟨c, o, vs, t, e1, e2, e3, e4⟩ := r
      cases e1
      exact ⟨c', o, vs, t, rfl, hk _ _ (fun q => hc _ q _ ⟨c', o, vs, t, rfl, e2, e3, e4⟩) e2, e3, e4⟩
  · obtain ⟨ps, e⟩ := t.2
    exact ⟨ps, hk _ _ (fun q => (hn _ q).2 rfl) e⟩
theorem Kp.but {f : Bool} {g h h' : Heap} {wr : List Addr} (k : Kp f g h) (t : Tb g) (hk : ∀ b o, b ∉ wr → h.get? b = some o → h'.get? b = some o) (hw : ∀ b ∈ wr, g.get? b = none) (hn : ∀ b ∈ wr, b ≠ 116 ∧ b ≠ 83) (hc : ∀ b ∈ wr, ∀ q, ¬ h.CodeRec (.ref b) q) : Kp f g h' :=
  ⟨fun b o n1 n2 e => hk b o (fun q => by rw [hw b q] at e; cases e) (k.keep b o n1 n2 e), fun _ => (k.tb t).but hk hn hc⟩
mutual
theorem Rp.but {h h' : Heap} {wr : List Addr} (hk : ∀ b o, b ∉ wr → h.get? b = some o → h'.get? b = some o) (hc : ∀ b ∈ wr, ∀ vs, ¬ h.PlainList b vs) : ∀ {v : Value} {p : PV}, Rp h v p → Rp h' v p
  | _, _, .none => .none
  | _, _, .bool b => .bool b
  | _, _, .int i t => .int i t
  | _, _, .str x t => .str x t
  | _, _, .list z x b => .list z (let ⟨m, e⟩ := x; ⟨m, hk _ _ (fun q => hc _ q _ ⟨m, e⟩) e⟩) (Rps.but hk hc b)
  | _, _, .obj a z => .obj a z
  | _, _, .bi i => .bi i
  | _, _, .ty i => .ty i
theorem Rps.but {h h' : Heap} {wr : List Addr} (hk : ∀ b o, b ∉ wr → h.get? b = some o → h'.get? b = some o) (hc : ∀ b ∈ wr, ∀ vs, ¬ h.PlainList b vs) : ∀ {vs : List Value} {ps : List PV}, Rps h vs ps → Rps h' vs ps
  | _, _, .nil => .nil
  | _, _, .cons a b => .cons (Rp.but hk hc a) (Rps.but hk hc b)
end
end Mine

/- L5 -/
open PySem PySem.Spec PySem.Calls PySem.W PyProof.Rows
namespace Mine

theorem frameish_not {o : Obj} (h : frameish o) : (∀ vs n, o ≠ { cls := .type "list", data := .seq vs n }) ∧ ∀ vs, o.data = .fields vs → ∀ q t, vs[1]? ≠ some (.str q t) := by
  refine ⟨fun vs n q => ?_, fun vs q => ?_⟩
  · subst q
    exact absurd h (not_frameish (T := "list") rfl (fun _ _ q => by cases q) (fun _ q => by cases q))
  · rcases h with ⟨_, _, q'⟩ | ⟨_, q'⟩ | ⟨_, q'⟩
    · rw [q] at q'; cases q'
    · rw [q] at q'; cases q'
    · exact q' _ q
theorem Heap.Ns.frameish {h : Heap} {a : Addr} {m : Str → Option Value} (x : h.Ns a m) : ∃ o, h.get? a = some o ∧ Mine.frameish o := let ⟨o, es, ep, e, hd, _⟩ := x; ⟨o, e, .inl ⟨_, _, hd⟩⟩
theorem Heap.IsCell.frameish {h : Heap} {a : Addr} {v : Option Value} (x : h.IsCell a v) : ∃ o, h.get? a = some o ∧ Mine.frameish o := let ⟨o, e, hd⟩ := x; ⟨o, e, .inr (.inl ⟨_, hd⟩)⟩
theorem noCode {h : Heap} {a : Addr} (x : ∃ o, h.get? a = some o ∧ Mine.frameish o) : (∀ q, ¬ h.CodeRec (.ref a) q) ∧ ∀ vs, ¬ h.PlainList a vs := by
  obtain ⟨o, e, hf⟩ := x
  refine ⟨fun q ⟨c, o', vs, t, e1, e2, e3, e4⟩ => ?_, fun vs ⟨n, e1⟩ => ?_⟩
  · cases e1; rw [e] at e2; cases e2; exact (frameish_not hf).2 _ e3 _ _ e4
  · rw [e] at e1; cases e1; exact (frameish_not hf).1 _ _ rfl
theorem noCodeL {h : Heap} {a : Addr} {ys : Array Value} (x : h.PlainList a ys) : ∀ q, ¬ h.CodeRec (.ref a) q := fun q ⟨c, o', vs, t, e1, e2, e3, e4⟩ => by
  obtain ⟨n, e⟩ := x
  cases e1; rw [e] at e2; cases e2; cases e3
theorem TestsOne {f : Bool} {w : World} {A : Around} {env : Env} {c : PySem.Expr} {b : Bool} {s : Shared} (h : Ev f w A (isTrue c env (eval c env)) (fun _ v => v = b) s) :
    Ev f w A (forIn [c] true fun c r => if r = true then do let ok ← isTrue c env (eval c env); pure (ForInStep.yield ok) else pure (ForInStep.yield r)) (fun _ v => v = b) s := fun E => wpAny_tests_one (h E)
theorem TestsNil {f : Bool} {w : World} {A : Around} {env : Env} {s : Shared} :
    Ev f w A (forIn ([] : List PySem.Expr) true fun c r => if r = true then do let ok ← isTrue c env (eval c env); pure (ForInStep.yield ok) else pure (ForInStep.yield r)) (fun _ v => v = true) s := fun E => wpAny_tests_nil ⟨rfl, .refl _⟩

def New (g : Heap) (a : Addr) : Prop := g.get? a = none ∧ a ≠ 116 ∧ a ≠ 83
theorem new_of {f : Bool} {g h : Heap} {a : Addr} (k : Kp f g h) (t : Tb g) (ha : h.objs.size ≤ a) : New g a := by
  have l := (k.tb t).lt
  have n := ne_of (n := a) ⟨Nat.lt_of_lt_of_le l.1 ha, Nat.lt_of_lt_of_le l.2 ha⟩
  refine ⟨?_, n.1, n.2⟩
  cases q : g.get? a with
  | none => rfl
  | some o => exact absurd (Heap.lt_size (k.keep a o n.1 (fun _ => n.2) q)) (Nat.not_lt.mpr ha)
section
variable {f : Bool} {w : World} {A : Around}

/-- the block's loop -/
theorem comp_loop {elt iter : PySem.Expr} {x : Str} {px : Pos} {ifs : List PySem.Expr} {scope : Scope} {pos : Pos} {I D : Addr} {fp wr : List Addr} {P : Nat → Value → Prop} {St : Nat → Heap → Prop} {g : Heap} {env : Env} {ρ : Ro} {ps : List PV} {b : PV → Bool} {F : PV → PV} {s₁ s : Shared} {R' : Result → Shared → Prop} {cx : Addr}
    (G : Gd w g) (S : Src f w A g s₁ I ps fp wr P St) (hst : St 0 s.heap) (K : Kp f g s.heap) (hD : s.heap.PlainList D #[]) (hC : ∃ m, s.heap.Ns env.locals m) (hk : env.scope.kind = .function)
    (hx : env.kindOf x = some .local ∨ (env.kindOf x = some .cell ∧ env.cells.lookup x = some cx)) (hcx : env.kindOf x = some .cell → (∃ v, s.heap.IsCell cx v) ∧ New g cx ∧ cx ∉ fp ∧ cx ≠ D ∧ cx ≠ env.locals)
    (hDg : New g D) (hCg : New g env.locals) (hDC : D ≠ env.locals) (hDf : D ∉ fp) (hCf : env.locals ∉ fp) (hsz : ps.length ≤ 1000000)
    (hρ : FrV env g ρ)
    (ht : ∀ p ∈ ps, ∀ s', Gd w s'.heap → FrV env s'.heap ((x, R p) :: ρ) → Ev f w A (forIn ifs true fun c r => if r = true then do let ok ← isTrue c env (eval c env); pure (ForInStep.yield ok) else pure (ForInStep.yield r)) (fun _ v => v = b p) s')
    (he : ∀ p ∈ ps, b p = true → ∀ s', Gd w s'.heap → FrV env s'.heap ((x, R p) :: ρ) → Ev f w A (eval elt env) (fun h v => Rp h v (F p)) s')
    (hsep : ∀ i, ∀ p ∈ ps, b p = true → ¬ Occ (.list (((ps.take i).filter b).map F)) (F p))
    (hR : ∀ s' ys, Rest s s' → Kp f g s'.heap → s'.heap.PlainList D ys → Rps s'.heap ys.toList ((ps.filter b).map F) → (∃ m, s'.heap.Ns env.locals m) → R' (.ok .next) s') :
    codeAny (model prg w) A (.compLoop (.ListComp elt [⟨.Name x px, iter, ifs, 0⟩] scope pos) 0 (.ref I) (.ref D) env) R' s := by
  have wfp : ∀ b ∈ wr, b ∈ fp := S.W.sub
  -- a store to one address of the block's own
  have one : ∀ (a : Addr) (h h' : Heap), New g a → Kp f g h → (∀ q, ¬ h.CodeRec (.ref a) q) → Heap.SameBut a h h' → Kp f g h' := fun a h h' ha k hc hs =>
    Kp.but (wr := [a]) k G.tb (fun b o hb e => hs.extBut b o (fun q => hb (by simp [q])) e) (fun b hb => by rw [List.mem_singleton.mp hb]; exact ha.1) (fun b hb => by rw [List.mem_singleton.mp hb]; exact ha.2) (fun b hb => by rw [List.mem_singleton.mp hb]; exact hc)
  refine codeAny_compLoop_tests
    (fun k s' => ∃ i ys, Rest s s' ∧ Kp f g s'.heap ∧ St i s'.heap ∧ s'.heap.PlainList D ys ∧ Rps s'.heap ys.toList (((ps.take i).filter b).map F) ∧ (∃ m, s'.heap.Ns env.locals m) ∧ (env.kindOf x = some .cell → ∃ v, s'.heap.IsCell cx v) ∧ i ≤ ps.length ∧ k = ps.length + 1 - i) ?_ (ps.length + 1)
    ⟨0, #[], .refl _, K, hst, hD, by simpa using Rps.nil, hC, fun q => (hcx q).1, Nat.zero_le _, rfl⟩
  rintro k s' ⟨i, ys, R1, K1, st1, D1, r1, C1, X1', hi, rfl⟩
  rcases Nat.lt_or_ge i ps.length with hlt | hge
  · refine S.W.item i s' _ _ hlt st1 fun v h₁ tk₁ hPv st₂ k₂ => ?_
    -- after the iterator's turn
    have nc := S.nc i s'.heap st1
    have K2 : Kp f g h₁ := Kp.but K1 G.tb k₂ S.new (fun b hb => S.nt b (wfp b hb)) (fun b hb => (nc b hb).1)
    have D2 : h₁.PlainList D ys := let ⟨n, e⟩ := D1; ⟨n, k₂ _ _ (fun q => hDf (wfp _ q)) e⟩
    have r2 : Rps h₁ ys.toList (((ps.take i).filter b).map F) := Rps.but k₂ (fun b hb => (nc b hb).2) r1
    obtain ⟨m1, n1⟩ := C1
    have n2 : h₁.Ns env.locals m1 := n1.at' fun o e => k₂ _ o (fun q => hCf (wfp _ q)) e
    have X2 : env.kindOf x = some .cell → ∃ v, h₁.IsCell cx v := fun q => by
      obtain ⟨u, o, e, hd⟩ := X1' q
      exact ⟨u, o, k₂ _ _ (fun z => (hcx q).2.2.1 (wfp _ z)) e, hd⟩
    obtain ⟨p, hp, rp⟩ := S.it i v h₁ hlt (fun _ _ _ r => Rp.kp K2 G.tb r) hPv
    have hmem : p ∈ ps := List.mem_of_getElem? hp
    -- the target's store
    have R2 : Rest s' { s' with heap := h₁, toks := tk₁ } := .of
    have store : ∀ (Q : Unit → Shared → Prop) (E : Value → Shared → Prop),
        (∀ s'', Rest s s'' → Kp f g s''.heap → St (i + 1) s''.heap → s''.heap.PlainList D ys → Rps s''.heap ys.toList (((ps.take i).filter b).map F) → (∃ m, s''.heap.Ns env.locals m) → (env.kindOf x = some .cell → ∃ v, s''.heap.IsCell cx v) →
          FrV env s''.heap ((x, R p) :: ρ) → Q () s'') → wpAny (model prg w) A (storeName env x v) Q E { s' with heap := h₁, toks := tk₁ } := fun Q E hQ => by
      rcases hx with hl | ⟨hl, hc⟩
      · refine wpAny_storeName_local hl n2 (fun h₂ n3 hs => ?_) (by rw [hk]; rfl)
        have K3 := one _ _ _ hCg K2 (noCode (Heap.Ns.frameish n2)).1 hs
        have keep : ∀ b o, b ∉ [env.locals] → h₁.get? b = some o → h₂.get? b = some o := fun b o hb e => hs.extBut b o (fun q => hb (by simp [q])) e
        refine hQ _ (R1.trans (R2.trans .of)) K3 (S.W.frame _ _ _ st₂ fun b hb o e => hs.extBut b o (fun q => hCf (q ▸ hb)) e) (let ⟨n, e⟩ := D2; ⟨n, hs.extBut _ _ hDC e⟩) (Rps.but keep (fun b hb => by rw [List.mem_singleton.mp hb]; exact (noCode (Heap.Ns.frameish n2)).2) r2) ⟨_, n3⟩
          (fun q => by rw [hl] at q; cases q) ?_
        intro y sp e
        rw [List.lookup_cons] at e
        cases hy : y == x with
        | true =>
          rw [hy] at e; cases e
          rw [beq_iff_eq.mp hy]
          exact ⟨v, .inl ⟨hl, _, n3, by simp⟩, Rp.but keep (fun b hb => by rw [List.mem_singleton.mp hb]; exact (noCode (Heap.Ns.frameish n2)).2) rp⟩
        | false => rw [hy] at e; exact hρ.kp K3 G.tb y sp e
      · obtain ⟨_, c2, c3, c4, c5⟩ := hcx hl
        obtain ⟨u, hu⟩ := X2 hl
        refine wpAny_storeName_cell hk hl hc hu (fun h₂ n3 hs => ?_)
        have K3 := one _ _ _ c2 K2 (noCode (Heap.IsCell.frameish hu)).1 hs
        have keep : ∀ b o, b ∉ [cx] → h₁.get? b = some o → h₂.get? b = some o := fun b o hb e => hs.extBut b o (fun q => hb (by simp [q])) e
        refine hQ _ (R1.trans (R2.trans .ofH)) K3 (S.W.frame _ _ _ st₂ fun b hb o e => hs.extBut b o (fun q => c3 (q ▸ hb)) e) (let ⟨n, e⟩ := D2; ⟨n, hs.extBut _ _ c4.symm e⟩) (Rps.but keep (fun b hb => by rw [List.mem_singleton.mp hb]; exact (noCode (Heap.IsCell.frameish hu)).2) r2) ⟨_, n2.sameBut hs c5.symm⟩
          (fun _ => ⟨_, n3⟩) ?_
        intro y sp e
        rw [List.lookup_cons] at e
        cases hy : y == x with
        | true =>
          rw [hy] at e; cases e
          rw [beq_iff_eq.mp hy]
          exact ⟨v, .inr ⟨.inl hl, cx, hc, n3⟩, Rp.but keep (fun b hb => by rw [List.mem_singleton.mp hb]; exact (noCode (Heap.IsCell.frameish hu)).2) rp⟩
        | false => rw [hy] at e; exact hρ.kp K3 G.tb y sp e
    have htake : ps.take (i + 1) = ps.take i ++ [p] := by rw [List.take_add_one, hp]; rfl
    -- what a pure step leaves
    have pure1 : ∀ s₂ s₃, Kps f s₂ s₃ → Rest s s₂ → Kp f g s₂.heap → St (i + 1) s₂.heap → s₂.heap.PlainList D ys → Rps s₂.heap ys.toList (((ps.take i).filter b).map F) → (∃ m, s₂.heap.Ns env.locals m) → (env.kindOf x = some .cell → ∃ v, s₂.heap.IsCell cx v) → FrV env s₂.heap ((x, R p) :: ρ) →
        Rest s s₃ ∧ Kp f g s₃.heap ∧ St (i + 1) s₃.heap ∧ s₃.heap.PlainList D ys ∧ Rps s₃.heap ys.toList (((ps.take i).filter b).map F) ∧ (∃ m, s₃.heap.Ns env.locals m) ∧ (env.kindOf x = some .cell → ∃ v, s₃.heap.IsCell cx v) ∧ FrV env s₃.heap ((x, R p) :: ρ) := fun s₂ s₃ k a1 a2 a3 a4 a5 a6 a7 a8 => by
      have t2 : Tb s₂.heap := a2.tb G.tb
      exact ⟨a1.trans k.ex, a2.trans k.kp, S.W.frame _ _ _ a3 fun b hb o e => k.kp.keep b o (S.nt b hb).1 (fun _ => (S.nt b hb).2) e, PlainList.kp a4 k.kp t2, Rps.kp k.kp t2 a5, (let ⟨m, n⟩ := a6; ⟨m, Ns.kp n k.kp t2⟩), fun q => (let ⟨u, n⟩ := a7 q; ⟨u, IsCell.kp n k.kp t2⟩), a8.kp k.kp t2⟩
    refine wpAny_assign_Name (store _ _ fun s₂ a1 a2 a3 a4 a5 a6 a7 a8 => ?_)
    refine wpAny_mono (ht p hmem s₂ (G.kp a2) a8 _) (fun ok s₃ h₃ => ?_) fun _ _ e => e
    obtain ⟨rfl, k₃⟩ := h₃
    obtain ⟨b1, b2, b3, b4, b5, b6, b7, b8⟩ := pure1 s₂ s₃ k₃ a1 a2 a3 a4 a5 a6 a7 a8
    cases hb : b p with
    | false =>
      simp only [Bool.false_eq_true, if_false]
      refine ⟨ps.length + 1 - (i + 1), by omega, i + 1, ys, b1, b2, b3, b4, ?_, b6, b7, hlt, rfl⟩
      rw [htake, List.filter_append]; simpa [hb] using b5
    | true =>
      simp only [if_true]
      refine wpAny_mono (he p hmem hb s₃ (G.kp b2) b8 _) (fun y s₄ h₄ => ?_) fun _ _ e => e
      obtain ⟨ry, k₄⟩ := h₄
      obtain ⟨c1, c2, c3, c4, c5, c6, c7, c8⟩ := pure1 s₃ s₄ k₄ b1 b2 b3 b4 b5 b6 b7 b8
      have hlen : ys.size ≤ sizeLine := by
        have e1 := c5.length
        have e2 : ((ps.take i).filter b).length ≤ (ps.take i).length := List.length_filter_le _ _
        have e3 : (ps.take i).length ≤ ps.length := by rw [List.length_take]; exact Nat.min_le_right _ _
        have e4 : ys.toList.length = ys.size := by simp
        rw [List.length_map] at e1
        rw [sizeLine_eq]; omega
      refine wpAny_list_append_plain (hsz := hlen) c4 fun h₅ l₅ hs => ?_
      have K5 := one _ _ _ hDg c2 (noCodeL c4) hs
      have keep : ∀ b o, b ≠ D → s₄.heap.get? b = some o → h₅.get? b = some o := fun b o hb e => hs.extBut b o hb e
      refine ⟨ps.length + 1 - (i + 1), by omega, i + 1, ys.push y, c1.trans .ofH, K5, S.W.frame _ _ _ c3 fun b hb o e => hs.extBut b o (fun q => hDf (q ▸ hb)) e, l₅, ?_, (let ⟨m, n⟩ := c6; ⟨m, n.sameBut hs hDC.symm⟩), fun q => (let ⟨u, n⟩ := c7 q; ⟨u, n.sameBut hs (hcx q).2.2.2.1⟩), hlt, rfl⟩
      rw [htake, List.filter_append, List.map_append, Array.toList_push]
      have e1 : (List.filter b [p]).map F = [F p] := by simp [hb]
      rw [e1]
      refine Rps.append (Rps.off c4 c5 keep c5 fun q hq => ?_) (.cons (Rp.off c4 c5 keep ry (hsep i p hmem hb)) .nil)
      obtain ⟨q', hq', rfl⟩ := List.mem_map.mp hq
      obtain ⟨hq1, hq2⟩ := List.mem_filter.mp hq'
      exact hsep i q' (List.mem_of_mem_take hq1) hq2
  · have hin : i = ps.length := by omega
    subst hin
    have nc := S.nc _ s'.heap st1
    refine S.W.done s' _ _ st1 fun h₁ tk₁ k₂ => ?_
    have K2 : Kp f g h₁ := Kp.but K1 G.tb k₂ S.new (fun b hb => S.nt b (wfp b hb)) (fun b hb => (nc b hb).1)
    have D2 : h₁.PlainList D ys := let ⟨n, e⟩ := D1; ⟨n, k₂ _ _ (fun q => hDf (wfp _ q)) e⟩
    have r2 := Rps.but k₂ (fun b hb => (nc b hb).2) r1
    rw [List.take_length] at r2
    obtain ⟨m1, n1⟩ := C1
    exact hR _ ys (R1.trans .of) K2 D2 r2 ⟨m1, n1.at' fun o e => k₂ _ o (fun q => hCf (wfp _ q)) e⟩
end
end Mine

/- L6 -/
open PySem PySem.Spec PySem.Calls PySem.W PyProof.Rows
namespace Mine

def CF (env : Env) (y : Str) : Bool := env.kindOf y == some .cell || env.kindOf y == some .free
theorem CF.or {env : Env} {y : Str} (h : CF env y = true) : env.kindOf y = some .cell ∨ env.kindOf y = some .free := by
  rcases Bool.or_eq_true_iff.mp h with q | q
  · exact .inl (by simpa using q)
  · exact .inr (by simpa using q)
theorem CF.not_local {env : Env} {y : Str} (h : CF env y = true) : env.kindOf y ≠ some .local := by
  rcases CF.or h with q | q <;> rw [q] <;> decide
/-- the names that a block closes over -/
def Caps (scope : Scope) (cl : List (Str × Addr)) (env : Env) (ρ ρ' : Ro) : Prop :=
  ∀ y sp, ρ'.lookup y = some sp → ρ.lookup y = some sp ∧ CF env y = true ∧ ∀ C, CF (cEnv scope cl C env) y = true ∧ (cEnv scope cl C env).cells.lookup y = env.cells.lookup y
theorem caps_nil {scope : Scope} {cl : List (Str × Addr)} {env : Env} {ρ : Ro} : Caps scope cl env ρ [] := fun y sp e => by cases e
theorem caps_cons {scope : Scope} {cl : List (Str × Addr)} {env : Env} {ρ ρ' : Ro} {y : Str} {sp : SP} (h : Caps scope cl env ρ ρ') (h1 : ρ.lookup y = some sp := by rfl) (h2 : CF env y = true := by rfl) (h3 : ∀ C, CF (cEnv scope cl C env) y = true := by intro _; rfl) (h4 : ∀ C, (cEnv scope cl C env).cells.lookup y = env.cells.lookup y := by intro _; rfl) : Caps scope cl env ρ ((y, sp) :: ρ') := fun z q e => by
  rw [List.lookup_cons] at e
  cases hz : z == y with
  | true =>
    rw [hz] at e; cases e
    rw [beq_iff_eq.mp hz]
    exact ⟨h1, h2, fun C => ⟨h3 C, h4 C⟩⟩
  | false => rw [hz] at e; exact h z q e
theorem Caps.frv {scope : Scope} {cl : List (Str × Addr)} {env : Env} {ρ ρ' : Ro} {C : Addr} {h : Heap} (c : Caps scope cl env ρ ρ') (F : FrV env h ρ) : FrV (cEnv scope cl C env) h ρ' := fun y sp e => by
  obtain ⟨e1, c1, c2⟩ := c y sp e
  obtain ⟨c3, c4⟩ := c2 C
  obtain ⟨v, hv, p⟩ := F y sp e1
  refine ⟨v, ?_, p⟩
  rcases hv with ⟨k, _⟩ | ⟨k, a, e2, n⟩
  · exact absurd k (CF.not_local c1)
  · exact .inr ⟨CF.or c3, a, c4.trans e2, n⟩

section
variable {f : Bool} {w : World} {A : Around} {env : Env} {ρ ρ' : Ro}

theorem ev_comp {elt iter : PySem.Expr} {x : Str} {px : Pos} {ifs : List PySem.Expr} {scope : Scope} {cl : List (Str × Addr)} {pos : Pos} {P1 : SP} {ps : List PV} {b : PV → Bool} {F : PV → PV}
    (hh : A.handled = none) (hi : EV f w A env ρ iter P1) (hit : Iter f w A P1 ps) (hsz : ps.length ≤ 1000000) (hclos : closureFor scope env = pure cl)
    (hcap : Caps scope cl env ρ ρ')
    (hxk : ∀ C, (cEnv scope cl C env).kindOf x = some .local ∨ ((cEnv scope cl C env).kindOf x = some .cell ∧ ∃ c, (cEnv scope cl C env).cells.lookup x = some c ∧ (x, c) ∉ cl))
    (ht : ∀ C, ∀ p ∈ ps, ∀ s', Gd w s'.heap → FrV (cEnv scope cl C env) s'.heap ((x, R p) :: ρ') → Ev f w A (forIn ifs true fun c r => if r = true then do let ok ← isTrue c (cEnv scope cl C env) (eval c (cEnv scope cl C env)); pure (ForInStep.yield ok) else pure (ForInStep.yield r)) (fun _ v => v = b p) s')
    (he : ∀ C, ∀ p ∈ ps, b p = true → EV f w A (cEnv scope cl C env) ((x, R p) :: ρ') elt (R (F p)))
    (hsep : ∀ i, ∀ p ∈ ps, b p = true → ¬ Occ (.list (((ps.take i).filter b).map F)) (F p))
    (hnames : ∀ z ∈ scope.names, z.2 = .local → scope.names.lookup z.1 = some .local := by decide)
    (hkind : scope.kind = .function := by rfl)
    (hs : ∀ x, foldedSetIterable iter env x = pure x := by intro _; rfl) : EV f w A env ρ (.ListComp elt [⟨.Name x px, iter, ifs, 0⟩] scope pos) (R (.list ((ps.filter b).map F))) := fun s G Fr E => by
  rw [eval_ListComp]
  refine wpAny_comprehension_free (use := none) rfl hs hclos hkind hnames (wpAny_mono (hi s G Fr E) (fun v s₁ h₁ => ?_) fun _ _ e => e)
  have G₁ := G.kp h₁.2.kp
  have F₁ := Fr.kp h₁.2.kp G.tb
  refine hit s₁ v G₁ h₁.1 _ _ fun s₂ I fp wr P St S k₂ => ?_
  have G₂ := G₁.kp k₂.kp
  have K₂ : Kp f s₁.heap s₂.heap := k₂.kp
  refine wpAny_newObj_type (newCompEnv fun h' kh nC hcells => ?_)
  have K₃ : Kp f s₁.heap (s₂.heap.push { cls := .type "list", data := .seq ([] : List Value).toArray }) := K₂.trans (.of_keeps fun _ _ e => Heap.get?_push_of_some _ e)
  have K₄ : Kp f s₁.heap h' := K₃.trans (.of_keeps kh)
  have nD : New s₁.heap s₂.heap.objs.size := new_of K₂ G₁.tb (Nat.le_refl _)
  have hC1 : (s₂.heap.push { cls := .type "list", data := .seq ([] : List Value).toArray }).objs.size = s₂.heap.objs.size + 1 := Heap.size_push _ _
  generalize hH : (s₂.heap.push { cls := .type "list", data := .seq ([] : List Value).toArray }) = H3 at *
  have nCn : New s₁.heap H3.objs.size := new_of K₃ G₁.tb (Nat.le_refl _)
  have fpD : s₂.heap.objs.size ∉ fp := fun q => Nat.lt_irrefl _ (S.lt _ q)
  have fpC : ∀ a, s₂.heap.objs.size < a → a ∉ fp := fun a ha q => Nat.lt_irrefl _ (Nat.lt_trans ha (S.lt _ q))
  have hDl : h'.PlainList s₂.heap.objs.size #[] := ⟨0, kh _ _ (hH ▸ Heap.get?_push_size _ rfl)⟩
  have keep2 : ∀ b o, s₂.heap.get? b = some o → h'.get? b = some o := fun b o e => kh _ _ (hH ▸ Heap.get?_push_of_some _ e)
  have st' : St 0 h' := S.W.frame _ _ _ S.st fun b _ o e => keep2 b o e
  have R₂ : Rest s s₂ := (Rest.trans (show Rest s s₁ from h₁.2.ex) k₂.ex)
  have body : ∀ s₅ : Shared, s₅ = { s₂ with heap := h' } → codeAny (model prg w) A (.compLoop (.ListComp elt [⟨.Name x px, iter, ifs, 0⟩] scope pos) 0 (.ref I) (.ref s₂.heap.objs.size) (cEnv scope cl H3.objs.size env))
      (compPost (model prg w) A E none (fun v s' => Rp s'.heap v (.list ((ps.filter b).map F)) ∧ Kps f s s') (.ref s₂.heap.objs.size) H3.objs.size) s₅ := by
    rintro s₅ rfl
    have hx' := hxk H3.objs.size
    have hcx : ∃ cx, ((cEnv scope cl H3.objs.size env).kindOf x = some .local ∨ ((cEnv scope cl H3.objs.size env).kindOf x = some .cell ∧ (cEnv scope cl H3.objs.size env).cells.lookup x = some cx)) ∧ ((cEnv scope cl H3.objs.size env).kindOf x = some .cell → (∃ v, h'.IsCell cx v) ∧ New s₁.heap cx ∧ cx ∉ fp ∧ cx ≠ s₂.heap.objs.size ∧ cx ≠ H3.objs.size) := by
      rcases hx' with q | ⟨q, c, e, n⟩
      · exact ⟨0, .inl q, fun z => by rw [q] at z; cases z⟩
      · refine ⟨c, .inr ⟨q, e⟩, fun _ => ?_⟩
        rcases hcells x c (mem_lookup e) with z | ⟨z1, z2⟩
        · exact absurd z n
        · have z3 : H3.objs.size < c := z1
          exact ⟨⟨_, z2⟩, new_of K₃ G₁.tb (Nat.le_of_lt z3), fpC c (by omega), Nat.ne_of_gt (by omega), Nat.ne_of_gt z3⟩
    obtain ⟨cx, hx1, hx2⟩ := hcx
    refine comp_loop (env := cEnv scope cl H3.objs.size env) (ρ := ρ') (b := b) (F := F) (cx := cx) G₁ S st' K₄ hDl ⟨_, nC⟩ (by show (relabel scope env).kind = .function; exact hkind) hx1 hx2 nD nCn (by show s₂.heap.objs.size ≠ H3.objs.size; omega) fpD (fpC _ (by show _ < H3.objs.size; omega)) hsz (hcap.frv F₁) (ht _) (fun p hp hb s' G' F' => he _ p hp hb s' G' F') hsep ?_
    intro s' ys R' K' D' r' ⟨m, n'⟩
    refine ⟨m, n', fun h'' hs => ?_⟩
    have keepC : ∀ b o, b ∉ [H3.objs.size] → s'.heap.get? b = some o → h''.get? b = some o := fun b o hb e => hs.extBut b o (fun q => hb (by simp [q])) e
    have noC := noCode (Heap.Ns.frameish n')
    refine ⟨.list (Nat.le_trans G₂.sz (Nat.le_refl _)) (let ⟨n, e⟩ := D'; ⟨n, by simpa using hs.extBut _ _ (Nat.ne_of_lt (by omega)) e⟩) (by simpa using Rps.but keepC (fun b hb => by rw [List.mem_singleton.mp hb]; exact noC.2) r'), ?_⟩
    have K5 : Kp f s₁.heap h'' := Kp.but (wr := [H3.objs.size]) K' G₁.tb keepC (fun b hb => by rw [List.mem_singleton.mp hb]; exact nCn.1) (fun b hb => by rw [List.mem_singleton.mp hb]; exact nCn.2) (fun b hb => by rw [List.mem_singleton.mp hb]; exact noC.1)
    have R5 : Rest s { s' with heap := h'' } := (R₂.trans .ofH).trans (R'.trans .ofH)
    exact ⟨R5, h₁.2.kp.trans K5⟩
  refine codeAny_compStart_list (body _ rfl) (S.W.self 0 _ _ _ st' (body _ rfl))
end
end Mine

/- O1 -/
open PySem PySem.Spec PySem.Calls PySem.W PyProof.Rows
namespace Mine
abbrev pS (xs : List Str) : PV := .list (xs.map .str)
abbrev pI (xs : List Int) : PV := .list (xs.map .int)
abbrev pB (xs : List Bool) : PV := .list (xs.map .bool)
abbrev pO : Option Str → PV
  | none => .none
  | some x => .str x
theorem strsAre {h : Heap} {vs : List Value} {xs : List Str} (r : Rps h vs (xs.map .str)) : StrsAre vs xs := by
  induction xs generalizing vs with
  | nil => cases r; exact .nil
  | cons x xs ih => cases r with | cons a b => cases a; exact .cons _ _ (ih b)
theorem intsAre {h : Heap} {vs : List Value} {xs : List Int} (r : Rps h vs (xs.map .int)) : IntsAre vs xs := by
  induction xs generalizing vs with
  | nil => cases r; exact .nil
  | cons x xs ih => cases r with | cons a b => cases a; exact .cons _ _ (ih b)
theorem rps_map {α : Type} {h : Heap} {vs : List Value} {xs : List α} {c : α → PV} (hl : vs.length = xs.length) (hi : ∀ (i : Nat) (v : Value) (x : α), vs[i]? = some v → xs[i]? = some x → Rp h v (c x)) : Rps h vs (xs.map c) := by
  induction xs generalizing vs with
  | nil => cases vs with | nil => exact .nil | cons => simp at hl
  | cons x xs ih =>
    cases vs with
    | nil => simp at hl
    | cons v vs => exact .cons (hi 0 v x rfl rfl) (ih (by simpa using hl) fun i v x h1 h2 => hi (i + 1) v x (by simpa using h1) (by simpa using h2))

section
variable {f : Bool} {w : World} {A : Around} {s : Shared} {a b : Value} {x y : Str} {i j : Int} {xs ys : List Str} {ns : List Int} {ps qs : List PV}
theorem op_eq_str (ha : Rp s.heap a (.str x)) (hb : Rp s.heap b (.str y)) : Ev f w A (compareOp .Eq a b) (R (.bool (x == y))).P s := fun E => by
  cases ha; cases hb
  exact P.eq_str ⟨by rw [SeqAt.str_beq]; exact .bool _, .refl _⟩
theorem op_add_int (ha : Rp s.heap a (.int i)) (hb : Rp s.heap b (.int j)) : Ev f w A (binaryOp .Add a b) (R (.int (i + j))).P s := fun E => by
  cases ha; cases hb
  exact PyProof.Rows.add_int ⟨.int _ _, .toks⟩
theorem op_sub_int (ha : Rp s.heap a (.int i)) (hb : Rp s.heap b (.int j)) : Ev f w A (binaryOp .Sub a b) (R (.int (i - j))).P s := fun E => by
  cases ha; cases hb
  exact PyProof.Rows.sub_int ⟨.int _ _, .toks⟩
theorem op_mul_int (ha : Rp s.heap a (.int i)) (hb : Rp s.heap b (.int j)) (h1 : -(2 ^ 60) < i) (h2 : i < 2 ^ 60) : Ev f w A (binaryOp .Mult a b) (R (.int (i * j))).P s := fun E => by
  cases ha; cases hb
  exact PyProof.Rows.mul_int ⟨.int _ _, .toks⟩ (IntMulOk.of_left (intBits_le_64 (by omega) (by omega)))
theorem op_mod_int (ha : Rp s.heap a (.int i)) (hb : Rp s.heap b (.int j)) (h : j ≠ 0) : Ev f w A (binaryOp .Mod a b) (R (.int (i.fmod j))).P s := fun E => by
  cases ha; cases hb
  exact PyProof.Rows.mod_int h ⟨.int _ _, .toks⟩
theorem op_div_int (ha : Rp s.heap a (.int i)) (hb : Rp s.heap b (.int j)) (h : j ≠ 0) (h2 : j.natAbs < 1073741824) : Ev f w A (binaryOp .FloorDiv a b) (R (.int (i.fdiv j))).P s := fun E => by
  cases ha; cases hb
  exact PyProof.Rows.floordiv_int h ⟨.int _ _, .toks⟩ (.inl (PyProof.noPylong_small h2))
theorem op_pow_int (ha : Rp s.heap a (.int i)) (hb : Rp s.heap b (.int j)) (h0 : 0 ≤ j) (h1 : j ≤ 1000000) (h2 : i.natAbs < 2 ^ 64) : Ev f w A (binaryOp .Pow a b) (R (.int (i ^ j.toNat))).P s := fun E => by
  cases ha; cases hb
  exact PyProof.Rows.pow_int_small h0 h1 h2 ⟨.int _ _, .toks⟩
theorem op_lt_int (ha : Rp s.heap a (.int i)) (hb : Rp s.heap b (.int j)) : Ev f w A (compareOp .Lt a b) (R (.bool (decide (i < j)))).P s := fun E => by
  cases ha; cases hb
  exact PyProof.Rows.lt_int ⟨.bool _, .refl _⟩
theorem op_ge_int (ha : Rp s.heap a (.int i)) (hb : Rp s.heap b (.int j)) : Ev f w A (compareOp .GtE a b) (R (.bool (decide (j ≤ i)))).P s := fun E => by
  cases ha; cases hb
  exact P.ge_int ⟨.bool _, .refl _⟩
theorem op_eq_int (ha : Rp s.heap a (.int i)) (hb : Rp s.heap b (.int j)) : Ev f w A (compareOp .Eq a b) (R (.bool (i == j))).P s := fun E => by
  cases ha; cases hb
  exact PyProof.Rows.eq_int ⟨.bool _, .refl _⟩
theorem op_ne_int (ha : Rp s.heap a (.int i)) (hb : Rp s.heap b (.int j)) : Ev f w A (compareOp .NotEq a b) (R (.bool (i != j))).P s := fun E => by
  cases ha; cases hb
  exact PyProof.Rows.ne_int ⟨.bool _, .refl _⟩
theorem op_add_str (ha : Rp s.heap a (.str x)) (hb : Rp s.heap b (.str y)) (h : x.length + y.length ≤ 1000000) : Ev f w A (binaryOp .Add a b) (R (.str (x ++ y))).P s := fun E => by
  cases ha; cases hb
  exact PyProof.Rows.add_str (fun t k => ⟨.str _ _, .toks⟩) (by rw [sizeLine_eq]; omega)
theorem op_add_list (G : Gd w s.heap) (ha : Rp s.heap a (.list ps)) (hb : Rp s.heap b (.list qs)) (h : ps.length + qs.length ≤ 1000000) : Ev f w A (binaryOp .Add a b) (R (.list (ps ++ qs))).P s := fun E => by
  cases ha with
  | list z1 l1 r1 =>
    cases hb with
    | list z2 l2 r2 =>
      rename_i a1 vs b1 us
      obtain ⟨n1, e1⟩ := l1
      obtain ⟨n2, e2⟩ := l2
      have e : vs.toArray ++ us.toArray = (vs ++ us).toArray := by simp
      refine concat_meets ⟨_, e1, rfl⟩ ⟨_, e2, rfl⟩ noFill_list_add seq_list_add PySem.F.slot_list_add PySem.F.entry_list_add (PySem.F.args_list_add_2 _ _) (list_addW a1 b1 vs.toArray us.toArray n1 n2 none none #[] #[] (by
        simp only [List.size_toArray]; rw [r1.length, r2.length, sizeLine_eq]; omega)) ⟨e1, e2, ?_⟩
      rw [e]
      have k : Kp f s.heap (s.heap.push { cls := .type "list", data := .seq (vs ++ us).toArray }) := .of_keeps fun _ _ e => Heap.get?_push_of_some _ e
      exact ⟨.list G.sz ⟨_, Heap.get?_push_size _ rfl⟩ (Rps.kp k G.tb (r1.append r2)), .push⟩
theorem op_isnot_none {o : Option Str} (ha : Rp s.heap a (pO o)) (hb : Rp s.heap b .none) : Ev f w A (compareOp .IsNot a b) (R (.bool o.isSome)).P s := fun E => by
  cases hb
  cases o with
  | none => cases ha; exact isnot_none_none ⟨.bool _, .refl _⟩
  | some x => cases ha; exact isnot_none_ne (by intro q; cases q) ⟨.bool _, .refl _⟩
theorem op_in_strs (ha : Rp s.heap a (.str x)) (hb : Rp s.heap b (pS xs)) : Ev f w A (compareOp .In a b) (R (.bool (xs.any (· == x)))).P s := fun E => by
  cases ha
  cases hb with
  | list z l r => exact in_list_strs l.isList (strsAre r) ⟨.bool _, .refl _⟩
theorem op_notin_strs (ha : Rp s.heap a (.str x)) (hb : Rp s.heap b (pS xs)) : Ev f w A (compareOp .NotIn a b) (R (.bool (!xs.any (· == x)))).P s := fun E => by
  cases ha
  cases hb with
  | list z l r => exact notin_list_strs l.isList (strsAre r) ⟨.bool _, .refl _⟩
theorem op_in_ints (ha : Rp s.heap a (.int i)) (hb : Rp s.heap b (pI ns)) : Ev f w A (compareOp .In a b) (R (.bool (ns.any (· == i)))).P s := fun E => by
  cases ha
  cases hb with
  | list z l r => exact in_list_ints l.isList (intsAre r) ⟨.bool _, .refl _⟩
theorem beq_of_all {xs ys : List Str} (hl : xs.length = ys.length) : (List.range xs.length).all (fun j => (xs[j]?).getD default == (ys[j]?).getD default) = (xs == ys) := by
  rw [Bool.eq_iff_iff, List.all_eq_true]
  simp only [List.mem_range, beq_iff_eq]
  constructor
  · intro h
    apply List.ext_getElem hl
    intro n h1 h2
    have := h n h1
    simpa [h1, h2] using this
  · intro h n hn
    subst h; rfl
theorem strs_at {vs : List Value} (r : StrsAre vs xs) (j : Nat) (h : j < vs.length) : ∃ t, vs[j] = .str ((xs[j]?).getD default) t := by
  induction r generalizing j with
  | nil => simp at h
  | cons y t r ih =>
    cases j with
    | zero => exact ⟨t, rfl⟩
    | succ j => simpa using ih j (by simpa using h)
theorem op_eq_strs (hu : A.units < cLine) (ha : Rp s.heap a (pS xs)) (hb : Rp s.heap b (pS ys)) : Ev f w A (compareOp .Eq a b) (R (.bool (xs == ys))).P s := fun E => by
  cases ha with
  | list z1 l1 r1 =>
    cases hb with
    | list z2 l2 r2 =>
      rename_i a1 vs b1 us
      have q1 := r1.length
      have q2 := r2.length
      rw [List.length_map] at q1 q2
      by_cases hl : xs.length = ys.length
      · refine SeqAt.eq_listAt (e := fun j => (xs[j]?).getD default == (ys[j]?).getD default) l1.isList l2.isList (by simp; omega) hu (fun j h1 h2 => ?_) ⟨?_, .refl _⟩
        · obtain ⟨t, e⟩ := strs_at (strsAre r1) j (by simpa using h1)
          obtain ⟨u, e'⟩ := strs_at (strsAre r2) j (by simpa using h2)
          simp only [List.getElem_toArray]
          rw [e, e']
          exact SeqAt.EqAt.str_str _ _ _ _
        · simp only [List.size_toArray]
          rw [q1, beq_of_all hl]
          exact .bool _
      · refine SeqAt.eq_list_lengthsAt l1.isList l2.isList (by simp; omega) hu ⟨?_, .refl _⟩
        have : (xs == ys) = false := by
          rw [beq_eq_false_iff_ne]
          intro q; exact hl (by rw [q])
        rw [this]; exact .bool _
theorem op_ne_strs (hu : A.units < cLine) (ha : Rp s.heap a (pS xs)) (hb : Rp s.heap b (pS ys)) : Ev f w A (compareOp .NotEq a b) (R (.bool (xs != ys))).P s := fun E => by
  cases ha with
  | list z1 l1 r1 =>
    cases hb with
    | list z2 l2 r2 =>
      rename_i a1 vs b1 us
      have q1 := r1.length
      have q2 := r2.length
      rw [List.length_map] at q1 q2
      by_cases hl : xs.length = ys.length
      · refine SeqAt.RcNeAt.lists (e := fun j => (xs[j]?).getD default == (ys[j]?).getD default) l1.isList l2.isList (by simp; omega) hu (fun j h1 h2 => ?_) _ _ _ _ ⟨?_, .refl _⟩
        · obtain ⟨t, e⟩ := strs_at (strsAre r1) j (by simpa using h1)
          obtain ⟨u, e'⟩ := strs_at (strsAre r2) j (by simpa using h2)
          simp only [List.getElem_toArray]
          rw [e, e']
          exact SeqAt.EqAt.str_str _ _ _ _
        · simp only [List.size_toArray]
          rw [q1, beq_of_all hl]
          exact .bool _
      · refine SeqAt.RcNeAt.lists_lengths l1.isList l2.isList (by simp; omega) hu _ _ _ _ ⟨?_, .refl _⟩
        have : (xs != ys) = true := by
          rw [bne_iff_ne]
          intro q; exact hl (by rw [q])
        rw [this]; exact .bool _
/-- against the empty list -/
theorem op_eq_nil (hu : A.units < cLine) (ha : Rp s.heap a (.list ps)) (hb : Rp s.heap b (.list [])) : Ev f w A (compareOp .Eq a b) (R (.bool ps.isEmpty)).P s := fun E => by
  cases ha with
  | list z1 l1 r1 =>
    cases hb with
    | list z2 l2 r2 =>
      rename_i a1 vs b1 us
      cases r2
      cases ps with
      | nil =>
        cases r1
        refine SeqAt.eq_listAt (e := fun _ => true) l1.isList l2.isList rfl hu (fun j h1 h2 => by simp at h1) ⟨.bool _, .refl _⟩
      | cons p ps =>
        have q1 := r1.length
        exact SeqAt.eq_list_lengthsAt l1.isList l2.isList (by simp at q1 ⊢; intro q; subst q; simp at q1) hu ⟨.bool _, .refl _⟩
theorem op_ne_nil (hu : A.units < cLine) (ha : Rp s.heap a (.list ps)) (hb : Rp s.heap b (.list [])) : Ev f w A (compareOp .NotEq a b) (R (.bool (!ps.isEmpty))).P s := fun E => by
  cases ha with
  | list z1 l1 r1 =>
    cases hb with
    | list z2 l2 r2 =>
      rename_i a1 vs b1 us
      cases r2
      cases ps with
      | nil =>
        cases r1
        refine SeqAt.RcNeAt.lists (e := fun _ => true) l1.isList l2.isList rfl hu (fun j h1 h2 => by simp at h1) _ _ _ _ ⟨.bool _, .refl _⟩
      | cons p ps =>
        have q1 := r1.length
        exact SeqAt.RcNeAt.lists_lengths l1.isList l2.isList (by simp at q1 ⊢; intro q; subst q; simp at q1) hu _ _ _ _ ⟨.bool _, .refl _⟩
theorem op_len_list (ha : Rp s.heap a (.list ps)) (h : ps.length ≤ 1000000) : Ev f w A (call (.builtin "len") [a]) (R (.int ps.length)).P s := fun E => by
  cases ha with
  | list z l r =>
    rename_i a1 vs
    have q := r.length
    refine Calls.call_len_list l.isList (by simp; omega) ⟨?_, .toks⟩
    rw [List.size_toArray, q]
    exact .int _ _
theorem op_len_str (ha : Rp s.heap a (.str x)) (h : x.length ≤ 1000000) : Ev f w A (call (.builtin "len") [a]) (R (.int x.length)).P s := fun E => by
  cases ha
  exact P.len_str (by omega) ⟨.int _ _, .toks⟩
theorem op_range1 (ha : Rp s.heap a (.int i)) : Ev f w A (call (.type "range") [a]) (RR 0 i).P s := fun E => by
  cases ha
  exact call_range_1 ⟨⟨_, _, _, _, rfl, Heap.get?_push_size _ rfl⟩, .push⟩
theorem op_range2 (ha : Rp s.heap a (.int i)) (hb : Rp s.heap b (.int j)) : Ev f w A (call (.type "range") [a, b]) (RR i j).P s := fun E => by
  cases ha; cases hb
  exact call_range_2 ⟨⟨_, _, _, _, rfl, Heap.get?_push_size _ rfl⟩, .push⟩
theorem op_list_range {n : Nat} (G : Gd w s.heap) (hh : A.handled = none) (ha : (RR i j).P s.heap a) (hn : j = i + n) (h1 : -1000000 ≤ i) (h2 : i ≤ 1000000) (h3 : n ≤ 1000000) : Ev f w A (call (.type "list") [a]) (R (pI (upFrom i n))).P s := fun E => by
  obtain ⟨r, t, u, k, rfl, hr⟩ := ha
  have hsz : Builtin.Range.rangeSize i j 1 = n := by
    rw [rangeSize_one]
    split <;> omega
  refine call_list_range hh hr (small_one (by omega) (by omega) (by omega) (by omega)) hsz (by omega) fun h' tk acc' c' hk e ho => ?_
  refine ⟨?_, .of_keeps hk⟩
  have hz : acc'.size = n := ho.1
  have e2 : acc' = acc'.toList.toArray := by simp
  rw [e2] at e
  refine .list G.sz ⟨_, e⟩ (rps_map (by simp [upFrom, hz]) fun q v x h1 h2 => ?_)
  obtain ⟨t, rfl⟩ := ho.2 q v (by simpa using h1)
  have hq : q < n := by
    rcases Nat.lt_or_ge q n with z | z
    · exact z
    · have : acc'[q]? = none := by simp [hz, z]
      simp at h1
      rw [this] at h1; cases h1
  simp [upFrom, hq] at h2
  subst h2
  rw [Int.mul_one]
  exact .int _ _
theorem op_item_list {value slice : PySem.Expr} {k : Int} {p : PV} (ha : Rp s.heap a (.list ps)) (hb : Rp s.heap b (.int k)) (h0 : 0 ≤ k) (h1 : k ≤ 1000000) (hp : ps[k.toNat]? = some p) (hs : ∀ o i, subscripted slice false o i = operate [o, i] (getItem o i) := by intro _ _; rfl) : Ev f w A (subscriptTail value slice a b) (R p).P s := fun E => by
  cases hb
  cases ha with
  | list z l r =>
    obtain ⟨v, e, rv⟩ := r.get hp
    exact tail_any l.isList.typeIs slot_list_getitem.lookup (wpAny_getItem_list l.isList h0 (by omega) (by simpa using e) ⟨rv, .refl _⟩) (hs _ _)
theorem op_item_str {value slice : PySem.Expr} {k : Int} {c : Nat} (ha : Rp s.heap a (.str x)) (hb : Rp s.heap b (.int k)) (h0 : -1000000 ≤ k) (h1 : k ≤ 1000000) (hc : (seqIndex? k x.length).bind (x.cps[·]?) = some c) (hs : ∀ o i, subscripted slice false o i = operate [o, i] (getItem o i) := by intro _ _; rfl) : Ev f w A (subscriptTail value slice a b) (R (.str ⟨#[c]⟩)).P s := fun E => by
  cases ha; cases hb
  refine tail_any (typeIs_str s x _) F.slot_str_getitem.lookup (P.getItem_str ?_ hc ⟨.str _ _, .toks⟩) (hs _ _)
  simp; omega
end
end Mine

/- Re1 -/
open PySem PySem.Spec PySem.Calls PySem.W PyProof.Rows
set_option maxRecDepth 100000
namespace Mine
def ipCode : Array Nat := #[14, 8, 1, 2, 4294967295, 1, 1, 46, 0, 16, 46, 24, 9, 1, 4294967295, 13, 4, 8, 0, 0, 1, 6, 5, 1]
def isDone : Option Sre.Outcome → Option Bool
  | some .matched => some true
  | some .failed => some false
  | _ => none
def drv : Nat → Sre.M → Sre.M
  | 0, m => m
  | n + 1, m => let m := m.runFor 4; if m.outcome.isSome then m else drv n m
def srch (x : Str) : Option Bool := isDone (drv 400 (Sre.forSearch ipCode x.cps 0 0 x.cps.size false)).outcome

section
variable {M : Model} {A : Around} {E : Value → Shared → Prop} {s : Shared}
theorem wp_drive {m m' : Sre.M} {Q : Sre.M → Shared → Prop} (n k : Nat) (h : drv n m = m') (ho : m'.outcome.isSome = true) (hn : n ≤ k) (hm : m.outcome.isSome = false) (hq : Q m' s) : wpAny M A (Builtin.Re.reDrive k m) Q E s := by
  induction n generalizing m k with
  | zero => subst h; rw [drv] at ho; rw [hm] at ho; cases ho
  | succ n ih =>
    cases k with
    | zero => omega
    | succ k =>
      rw [Builtin.Re.reDrive]
      rw [drv] at h
      show wpAny M A (if (m.runFor 4).outcome.isSome then pure (m.runFor 4) else do rule "sre.turn"; Builtin.Re.reDrive k (m.runFor 4)) Q E s
      cases hb : (m.runFor 4).outcome.isSome with
      | true =>
        simp only [hb, if_true] at h
        rw [if_pos rfl]
        subst h
        exact wpAny_pure hq
      | false =>
        simp only [hb, Bool.false_eq_true, if_false] at h
        rw [if_neg Bool.false_ne_true]
        exact wpAny_bind (wpAny_rule (ih k h (by omega) hb))
theorem wp_says (m : Sre.M) (l : List Nat) {Q : PUnit → Shared → Prop} (hq : Q ⟨⟩ s) : wpAny M A (forIn l PUnit.unit fun i _ => do
    if m.seen.has i then rule (Sre.names.getD i "")
    pure (ForInStep.yield PUnit.unit)) Q E s := by
  refine wpAny_forIn_list _ (fun _ _ s' => s' = s) Q (fun i rest b s' h => ?_) (fun b s' h => by subst h; exact hq) _ _ rfl
  subst h
  cases m.seen.has i with
  | true => exact wpAny_bind (wpAny_rule (wpAny_pure rfl))
  | false => exact wpAny_pure rfl
end

theorem slot_search : Slot "re.Pattern" "search" "re.Pattern.search" :=
  .of (owner := "re.Pattern") (n := "search") (by rw [typeLookup_type, builtinLookup_eq_fast]; kernel_rfl) (by decide +kernel) (by decide +kernel) (by decide +kernel)
    (by first | exact .inl (by decide +kernel) | exact .inr (by decide +kernel)) (by rw [isSubtype_type]; kernel_rfl)
theorem type_search : typeOf (.builtin "re.Pattern.search") = pure (.type "method_descriptor") := by show builtinType _ = _; rw [builtinType_eq_fast]; kernel_rfl
theorem entry_search : entryFor table "re.Pattern.search" = some Builtin.«re.Pattern.search» := entryFor_of_tree (by kernel_rfl)
theorem args_search (a b : Value) : argsOk "re.Pattern.search" ⟨[a, b], []⟩ := by
  unfold argsOk; kernel_rfl
theorem plainAttrs_Pattern : PlainAttrs "re.Pattern" :=
  ⟨⟨"object.__getattribute__", by rw [typeLookup_type, builtinLookup_eq_fast]; kernel_rfl, by decide +kernel⟩, by rw [typeLookup_type, builtinLookup_eq_fast]; kernel_rfl⟩
theorem noBool_Match : typeLookup (.type "re.Match") "__bool__" = pure none := by rw [typeLookup_type, builtinLookup_eq_fast]; kernel_rfl
theorem noLen_Match : typeLookup (.type "re.Match") "__len__" = pure none := by rw [typeLookup_type, builtinLookup_eq_fast]; kernel_rfl
theorem named_search (v : Value) : Builtin.Re.reNamed "re.Pattern.search" "search" ["string", "pos", "endpos"] 1 [v] [] = pure [some v, none, none] := by rfl
/-- a match, or none -/
def MM (b : Bool) : SP := .mk0 (fun h v => if b = true then ∃ a o, v = .ref a ∧ h.get? a = some o ∧ o.cls = .type "re.Match" ∧ ∃ fs, o.data = .fields fs else v = .none) (fun {h h' v} t k => by
  cases b with
  | true => exact fun ⟨a, o, e, x, c, fs, d⟩ => ⟨a, o, e, k.get t x (fun ps q => by rw [q] at c; cases c), c, fs, d⟩
  | false => exact id) (fun own h h' v k => by
  cases b with
  | true => exact fun ⟨a, o, e, x, c, fs, d⟩ => ⟨a, o, e, k.get x (not_frameish c (fun _ _ q => by rw [d] at q; cases q) (fun _ q => by rw [d] at q; cases q)), c, fs, d⟩
  | false => exact id)
theorem pat36 (P : Params) : ∃ fs sl, (KK P).lookup 36 = some ⟨.type "re.Pattern", none, .fields fs, sl⟩ ∧ fs.getD 5 .none = .ref 35 ∧ Builtin.Re.reRawNat (fs.getD 2 .none) = 0 ∧ Builtin.Re.reRawNat (fs.getD 6 .none) = 0 := ⟨_, _, rfl, rfl, rfl, rfl⟩
theorem pat35 (P : Params) : ∃ ws n sl, (KK P).lookup 35 = some ⟨.type "tuple", none, .seq ws n, sl⟩ ∧ (ws.map Builtin.Re.reRawOf).map (·.toNat) = ipCode := ⟨_, _, _, rfl, by decide +kernel⟩
section
variable {f : Bool} {w : World} {A : Around} {s : Shared} {x : Str} {t : Tok}
theorem wp_target {A : Around} {E : Value → Shared → Prop} {Q : Builtin.Re.ReTarget → Shared → Prop} (G : Gd w s.heap) (h : Q ⟨.ref 36, .str x t, ipCode, x.cps, 0, 0, 0, min (2 ^ 63 - 1) x.cps.size⟩ s) :
    wpAny (model prg w) A (Builtin.Re.reTarget "re.Pattern.search" "search" ⟨[.ref 36, .str x t], []⟩) Q E s := by
  obtain ⟨fs, sl, e1, e2, e3, e4⟩ := pat36 w.params
  obtain ⟨ws, n, sl2, e5, e6⟩ := pat35 w.params
  unfold Builtin.Re.reTarget
  simp only []
  rw [named_search]
  refine wpAny_bind (wpAny_pure ?_)
  simp only []
  refine wpAny_bind (wpAny_pure ?_)
  refine wpAny_bind (wpAny_pure ?_)
  refine wpAny_bind (wpAny_fieldsOf (G.K _ _ e1) rfl ?_)
  refine wpAny_bind (m := Builtin.Re.reTextOf _) (wpAny_bind (wpAny_pure (wpAny_pure ?_)))
  simp only [e4]
  refine wpAny_bind (m := Builtin.Re.reNoCollectionInside _ _) (wpAny_pure ?_)
  refine wpAny_bind (m := Builtin.Re.reRawItems _) ?_
  rw [e2]
  refine wpAny_bind (wpAny_seqItems (G.K _ _ e5) rfl ?_)
  refine wpAny_pure (wpAny_pure ?_)
  simp only [Option.getD_some, e6, e3]
  exact h
theorem wp_toEnd {M : Model} {A : Around} {E : Value → Shared → Prop} {m m' : Sre.M} {b : Bool} {Q : Option Sre.M → Shared → Prop} (h : drv 400 m = m') (ho : isDone m'.outcome = some b) (hm : m.outcome.isSome = false) (hq : Q (if b then some m' else none) s) :
    wpAny M A (Builtin.Re.reRunToEnd m) Q E s := by
  unfold Builtin.Re.reRunToEnd
  have ho' : m'.outcome.isSome = true := by cases q : m'.outcome with
    | none => rw [q] at ho; cases ho
    | some => rfl
  refine wpAny_bind (wp_drive 400 _ h ho' (by decide) hm ?_)
  refine wpAny_bind (wp_says m' _ ?_)
  cases q : m'.outcome with
  | none => rw [q] at ho; cases ho
  | some o =>
    cases o with
    | matched => rw [q] at ho; cases ho; exact wpAny_pure hq
    | failed => rw [q] at ho; cases ho; exact wpAny_pure hq
    | stuck w => rw [q] at ho; cases ho
theorem op_search {b : Bool} {a v : Value} (G : Gd w s.heap) (ha : Rp s.heap a (.obj 36)) (hv : Rp s.heap v (.str x)) (hb : srch x = some b) (hx : x.cps.size ≤ 1000000) (h0 : (Sre.forSearch ipCode x.cps 0 0 x.cps.size false).outcome.isSome = false) : Ev f w A (call (.builtin "re.Pattern.search") [a, v]) (MM b).P s := fun E => by
  cases ha; cases hv
  obtain ⟨fs, sl, e1, e2, e3, e4⟩ := pat36 w.params
  refine wpAny_call (codeAny_call_builtin slot_search.plain entry_search (slot_search.check _ _ _ _ _ _ _ _ ⟨_, G.K _ _ e1, rfl⟩ (args_search _ _) ?_))
  unfold Builtin.«re.Pattern.search»
  have hmin : min (2 ^ 63 - 1) x.cps.size = x.cps.size := Nat.min_eq_right (by omega)
  refine wpAny_bind (wp_target G ?_)
  simp only [hmin]
  unfold Builtin.Re.reAnswer
  generalize hm' : drv 400 (Sre.forSearch ipCode x.cps 0 0 x.cps.size false) = m'
  have hb' : isDone m'.outcome = some b := by rw [← hm']; exact hb
  refine wpAny_bind (wp_toEnd hm' hb' h0 ?_)
  cases b with
  | false =>
    exact wpAny_pure ⟨rfl, .refl _⟩
  | true =>
    refine wpAny_bind (m := Builtin.Re.reNewMatch _ _ _ _ _ _) ?_
    unfold Builtin.Re.reNewMatch
    simp only [List.range_zero, List.any_nil, Bool.false_eq_true, if_false, List.flatMap_nil]
    refine wpAny_bind (wpAny_newTuple ?_ (Nat.le_of_ble_eq_true rfl))
    refine wpAny_newObj_type ?_ (Nat.le_of_ble_eq_true rfl)
    refine wpAny_pure ⟨⟨_, _, rfl, Heap.get?_push_size _ rfl, rfl, _, rfl⟩, .of_keeps (tk := s.toks) fun _ _ e => Heap.get?_push_of_some _ (Heap.get?_push_of_some _ e)⟩
theorem tr_match {b : Bool} {v : Value} (hv : (MM b).P s.heap v) : Ev f w A (truthy v) (fun _ c => c = b) s := fun E => by
  cases b with
  | false => cases hv; exact wpAny_pure ⟨rfl, .refl _⟩
  | true =>
    obtain ⟨a, o, rfl, e, c, fs, d⟩ := hv
    have hT : s.TypeIs (.ref a) "re.Match" := ⟨o, e, c⟩
    unfold truthy
    refine wpAny_bind (wpAny_callSpecial?_none (name := Str.ofString "__bool__") hT noBool_Match ?_)
    refine wpAny_bind (wpAny_specialOf (name := Str.ofString "__len__") hT noLen_Match ?_)
    exact wpAny_pure ⟨rfl, .refl _⟩
end
end Mine

/- O2 -/
open PySem PySem.Spec PySem.Calls PySem.W PyProof.Rows
set_option maxRecDepth 100000
namespace Mine
noncomputable def fdOf (P : Params) (a : Addr) : FuncData := match (KK P).lookup a with
  | some ⟨_, _, .func fd, _⟩ => fd
  | _ => default
noncomputable def bodyOf (P : Params) (a : Addr) : List Stmt := match (fdOf P a).body with
  | .stmts b => b
  | _ => []

theorem Rps.take {h : Heap} {vs : List Value} {ps : List PV} (x : Rps h vs ps) (n : Nat) : Rps h (vs.take n) (ps.take n) := by
  induction ps generalizing vs n with
  | nil => cases x; simpa using Rps.nil
  | cons p ps ih =>
    cases x with
    | cons a b =>
      cases n with
      | zero => simpa using Rps.nil
      | succ n => simpa using Rps.cons a (ih b n)
theorem Rps.reverse {h : Heap} {vs : List Value} {ps : List PV} (x : Rps h vs ps) : Rps h vs.reverse ps.reverse := by
  induction ps generalizing vs with
  | nil => cases x; simpa using Rps.nil
  | cons p ps ih =>
    cases x with
    | cons a b => simpa using Rps.append (ih b) (.cons a .nil)
theorem pick_rev (items : Array Value) : slicePick items none none (some (-1)) = items.toList.reverse.toArray := by
  have e : sliceBounds none none (some (-1)) items.size = ((items.size : Int) - 1, -1, -1) := by
    simp [sliceBounds]
  unfold slicePick
  rw [e]
  congr 1
  simp only [sliceRange, show ¬ ((-1 : Int) > 0) by decide, if_false]
  have hc : (if (items.size : Int) - 1 > -1 then ((items.size : Int) - 1 - -1 - -1 - 1) / - -1 else 0).toNat = items.size := by
    split
    · have : ((items.size : Int) - 1 - -1 - -1 - 1) / - -1 = items.size := by
        rw [show (- -1 : Int) = 1 by decide, Int.ediv_one]; omega
      rw [this]; omega
    · omega
  rw [hc]
  have key : (List.map (fun k : Nat => ((items.size : Int) - 1 + -1 * (k : Int)).toNat) (List.range items.size)) = (List.range items.size).reverse := by
    apply List.ext_getElem (by simp)
    intro i h1 h2
    simp only [List.getElem_map, List.getElem_range, List.getElem_reverse, List.length_range]
    simp at h1
    omega
  rw [key, List.filterMap_reverse]
  congr 1
  have := pick_run items 0 items.size
  simp only [Nat.zero_add, List.drop_zero, List.map_id'] at this
  rw [this, List.take_of_length_le (by simp)]

def sliceS (x : Str) (l u : Option Int) : Str := if ((Builtin.Str.strSliceIndices l u 1 x.length).length == x.length) = true then x else ⟨((Builtin.Str.strSliceIndices l u 1 x.length).filterMap (x.cps[·]?)).toArray⟩
/-- a slice object -/
def SL (l u st : Option Int) : SP := .mk0 (fun h v => ∃ a ql qu qs, v = .ref a ∧ h.IsSlice a ql qu qs ∧ ql.map (·.1) = l ∧ qu.map (·.1) = u ∧ qs.map (·.1) = st) (fun t k ⟨a, ql, qu, qs, e, ⟨o, e1, e2, e3⟩, r⟩ => ⟨a, ql, qu, qs, e, ⟨o, k.get t e1 (fun ps q => by rw [q] at e2; cases e2), e2, e3⟩, r⟩) (fun _ _ _ _ k ⟨a, ql, qu, qs, e, ⟨o, e1, e2, e3⟩, r⟩ => ⟨a, ql, qu, qs, e, ⟨o, k.get e1 (not_frameish e2 (fun _ _ q => by rw [e3] at q; cases q) (fun _ q => by rw [e3] at q; cases q)), e2, e3⟩, r⟩)
/-- a part of a slice -/
def PT (i : Option Int) : SP := .mk0 (fun h v => ∃ q : Option (Int × Tok), v = partValue q ∧ q.map (·.1) = i) (fun _ _ r => r) (fun _ _ _ _ _ r => r)

section
variable {f : Bool} {w : World} {A : Around} {env : Env} {ρ : Ro} {e l r : PySem.Expr} {P P1 P2 : SP} {pos : Pos} {x y : Str} {s : Shared} {a b : Value} {i j : Int} {ps : List PV}

theorem ev_neg (h : EV f w A env ρ e (R (.int i))) : EV f w A env ρ (.UnaryOp .USub e pos) (R (.int (-i))) := fun s G F E =>
  wpAny_UnaryOp (wpAny_mono (h s G F E) (fun v s₁ h₁ => by
    have r : Rp s₁.heap v (.int i) := h₁.1
    cases r
    exact P.neg_int ⟨.int _ _, h₁.2.trans .toks⟩) fun _ _ e => e)

def EP (f : Bool) (w : World) (A : Around) (env : Env) (ρ : Ro) (e : Option PySem.Expr) (i : Option Int) : Prop := ∀ s, Gd w s.heap → FrV env s.heap ρ → Ev f w A (evalPart e env) (PT i).P s
theorem ep_none : EP f w A env ρ none none := fun s G F E => wpAny_pure ⟨⟨none, rfl, rfl⟩, .refl _⟩
theorem ep_some (h : EV f w A env ρ e (R (.int i))) : EP f w A env ρ (some e) (some i) := fun s G F E =>
  wpAny_mono (h s G F E) (fun v s₁ h₁ => by
    have r : Rp s₁.heap v (.int i) := h₁.1
    cases r
    exact ⟨⟨some (i, _), rfl, rfl⟩, h₁.2⟩) fun _ _ e => e
theorem ev_slice {lo up st : Option PySem.Expr} {li ui si : Option Int} (h1 : EP f w A env ρ lo li) (h2 : EP f w A env ρ up ui) (h3 : EP f w A env ρ st si) : EV f w A env ρ (.Slice lo up st pos) (SL li ui si) := fun s G F E =>
  wpAny_Slice (wpAny_mono (h1 s G F E) (fun a s₁ k₁ => wpAny_mono (h2 s₁ (G.kp k₁.2.kp) (F.kp k₁.2.kp G.tb) E) (fun b s₂ k₂ => wpAny_mono (h3 s₂ ((G.kp k₁.2.kp).kp k₂.2.kp) ((F.kp k₁.2.kp G.tb).kp k₂.2.kp (G.kp k₁.2.kp).tb) E) (fun c s₃ k₃ => by
    obtain ⟨⟨q1, rfl, e1⟩, K1⟩ := k₁
    obtain ⟨⟨q2, rfl, e2⟩, K2⟩ := k₂
    obtain ⟨⟨q3, rfl, e3⟩, K3⟩ := k₃
    exact ⟨⟨_, q1, q2, q3, rfl, ⟨_, Heap.get?_push_size _ rfl, rfl, rfl⟩, e1, e2, e3⟩, ((K1.trans K2).trans K3).trans .push'⟩) fun _ _ e => e) fun _ _ e => e) fun _ _ e => e)
theorem isPart (q : Option (Int × Tok)) : IsPart (partValue q) (q.map (·.1)) := by
  cases q with
  | none => exact .none
  | some q => exact .int _ _
theorem op_str_slice {value : PySem.Expr} {li ui : Option Int} {sl : PySem.Expr} (hx : (sliceS x li ui).length ≤ 1000000) (ha : Rp s.heap a (.str x)) (hb : (SL li ui none).P s.heap b) (hs : ∀ o i, ∃ ops, subscripted sl false o i = operate ops (getItem o i) := by intro _ _; exact ⟨_, rfl⟩) : Ev f w A (subscriptTail value sl a b) (R (.str (sliceS x li ui))).P s := fun E => by
  obtain ⟨a', ql, qu, qs, rfl, hsl, e1, e2, e3⟩ := hb
  have hqs : qs = none := by cases qs with
    | none => rfl
    | some q => simp at e3
  subst hqs
  cases ha
  obtain ⟨ops, hops⟩ := hs (.str x _) (.ref a')
  refine tail_any (typeIs_str s x _) F.slot_str_getitem.lookup (wpAny_getItem_str_slice hsl rfl ?_) hops
  subst e1 e2
  unfold sliceMade slicePicked sliceS
  simp only [Option.map_none, Option.getD_none, beq_self_eq_true, Bool.true_and]
  split
  · exact ⟨.str _ _, .refl _⟩
  · rename_i hif
    unfold sliceS at hx
    rw [if_neg hif] at hx
    exact ⟨Nat.le_trans hx (by rw [sizeLine_eq]; omega), .str _ _, .toks⟩
theorem op_list_slice {value : PySem.Expr} {li ui si : Option Int} {sl : PySem.Expr} {pick : List PV} (G : Gd w s.heap) (hx : ps.length ≤ 1000000) (ha : Rp s.heap a (.list ps)) (hb : (SL li ui si).P s.heap b) (h0 : si ≠ some 0)
    (hp : ∀ vs, Rps s.heap vs ps → Rps s.heap (slicePick vs.toArray li ui si).toList pick) (hs : ∀ o i, ∃ ops, subscripted sl false o i = operate ops (getItem o i) := by intro _ _; exact ⟨_, rfl⟩) : Ev f w A (subscriptTail value sl a b) (R (.list pick)).P s := fun E => by
  obtain ⟨a', ql, qu, qs, rfl, ⟨os, hsl, hc, hd⟩, e1, e2, e3⟩ := hb
  cases ha with
  | list z lst r =>
    rename_i l vs
    obtain ⟨ops, hops⟩ := hs (.ref l) (.ref a')
    have q := r.length
    refine tail_any lst.isList.typeIs slot_list_getitem.lookup (wpAny_getItem_list_slice lst.isList ⟨os, hsl, hc, hd⟩ (e1 ▸ isPart ql) (e2 ▸ isPart qu) (e3 ▸ isPart qs) h0 ?_ (by rw [List.size_toArray, q, sizeLine_eq]; omega)) hops
    have k : Kp f s.heap (s.heap.push { cls := .type "list", data := .seq (slicePick vs.toArray li ui si) }) := .of_keeps fun _ _ e => Heap.get?_push_of_some _ e
    exact ⟨.list G.sz ⟨0, by simpa using Heap.get?_push_size _ rfl⟩ (Rps.kp k G.tb (hp vs r)), .push'⟩
theorem pick_take {vs : List Value} (r : Rps s.heap vs ps) (n : Nat) : Rps s.heap (slicePick vs.toArray none (some (n : Int)) none).toList (ps.take n) := by
  rw [slicePick_upto']
  exact r.take n
theorem pick_reverse {vs : List Value} (r : Rps s.heap vs ps) : Rps s.heap (slicePick vs.toArray none none (some (-1))).toList ps.reverse := by
  rw [pick_rev]
  exact r.reverse
theorem tr_list (ha : Rp s.heap a (.list ps)) (hx : ps.length ≤ 1000000) : Ev f w A (truthy a) (fun _ c => c = !ps.isEmpty) s := fun E => by
  cases ha with
  | list z l r =>
    rename_i a vs
    have q := r.length
    refine wpAny_truthy_list l.isList (by rw [List.size_toArray, q]; omega) ⟨?_, .toks⟩
    cases ps with
    | nil => cases r; rfl
    | cons p ps => cases r; rfl
theorem gm_str {name : Str} {id : String} {pl : Sem Bool} (slot : Slot "str" name id) (hty : typeOf (.builtin id) = pure (.type "method_descriptor")) : ∀ s v, Gd w s.heap → (R (.str x)).P s.heap v → ∀ Q E, Q (Value.builtin id, [v]) s → wpAny (model prg w) A (getMethod v name pl) Q E s := fun s v G r Q E h => by
  have r : Rp s.heap v (.str x) := r
  cases r
  exact getMethod_builtin (typeIs_str _ _ _) F.plainAttrs_str slot hty (fun a e => by cases e) h
theorem gm_pat {name : Str} {id : String} {pl : Sem Bool} (slot : Slot "re.Pattern" name id) (hty : typeOf (.builtin id) = pure (.type "method_descriptor")) : ∀ s v, Gd w s.heap → (R (.obj 36)).P s.heap v → ∀ Q E, Q (Value.builtin id, [v]) s → wpAny (model prg w) A (getMethod v name pl) Q E s := fun s v G r Q E h => by
  have r : Rp s.heap v (.obj 36) := r
  cases r
  obtain ⟨fs, sl, e1, e2, e3, e4⟩ := pat36 w.params
  exact getMethod_builtin ⟨_, G.K _ _ e1, rfl⟩ plainAttrs_Pattern slot hty (fun a e => by cases e; exact ⟨_, G.K _ _ e1, rfl⟩) h
theorem m_lower (ha : Rp s.heap a (.str x)) (h : Builtin.Str.tooLong (Txt.lower x).length = false) : Ev f w A (call (.builtin "str.lower") [a]) (R (.str (Txt.lower x))).P s := fun E => by
  cases ha; exact SC.lower h ⟨.str _ _, .toks⟩
theorem m_upper (ha : Rp s.heap a (.str x)) (h : Builtin.Str.tooLong (Txt.upper x).length = false) : Ev f w A (call (.builtin "str.upper") [a]) (R (.str (Txt.upper x))).P s := fun E => by
  cases ha; exact SC.upper h ⟨.str _ _, .toks⟩
theorem m_starts (ha : Rp s.heap a (.str x)) (hb : Rp s.heap b (.str y)) : Ev f w A (call (.builtin "str.startswith") [a, b]) (R (.bool (Txt.startswith x y))).P s := fun E => by
  cases ha; cases hb; exact SC.startswith ⟨.bool _, .refl _⟩
theorem m_ends (ha : Rp s.heap a (.str x)) (hb : Rp s.heap b (.str y)) : Ev f w A (call (.builtin "str.endswith") [a, b]) (R (.bool (Txt.endswith x y))).P s := fun E => by
  cases ha; cases hb; exact SC.endswith ⟨.bool _, .refl _⟩
theorem m_find (ha : Rp s.heap a (.str x)) (hb : Rp s.heap b (.str y)) : Ev f w A (call (.builtin "str.find") [a, b]) (R (.int (Txt.find x y))).P s := fun E => by
  cases ha; cases hb; exact SC.find ⟨.int _ _, .toks⟩
/-- one argument -/
theorem sp1 {h : Heap} {vs : List Value} {P : SP} (x : SPs h vs [P]) : ∃ v, vs = [v] ∧ P.P h v := by
  match vs, x with
  | [v], ⟨a, _⟩ => exact ⟨v, rfl, a⟩
theorem sp2 {h : Heap} {vs : List Value} {P Q : SP} (x : SPs h vs [P, Q]) : ∃ v u, vs = [v, u] ∧ P.P h v ∧ Q.P h u := by
  match vs, x with
  | [v, u], ⟨a, b, _⟩ => exact ⟨v, u, rfl, a, b⟩
theorem sp3 {h : Heap} {vs : List Value} {P Q S : SP} (x : SPs h vs [P, Q, S]) : ∃ v u t, vs = [v, u, t] ∧ P.P h v ∧ Q.P h u ∧ S.P h t := by
  match vs, x with
  | [v, u, t], ⟨a, b, c, _⟩ => exact ⟨v, u, t, rfl, a, b, c⟩
end
end Mine

/- C2 -/
open PySem PySem.Spec PySem.Calls PySem.W PyProof.Rows
set_option maxRecDepth 100000
namespace Mine
def ip (x : Str) : Bool := srch x == some true
def okx (x : Str) : Bool := (srch x).isSome && !(Sre.forSearch ipCode x.cps 0 0 x.cps.size false).outcome.isSome && Nat.ble x.cps.size 1000
theorem okx_s {x : Str} (h : okx x = true) : srch x = some (ip x) := by
  unfold okx at h
  simp only [Bool.and_eq_true] at h
  obtain ⟨b, hb⟩ := Option.isSome_iff_exists.mp h.1.1
  unfold ip
  rw [hb]
  cases b <;> rfl
theorem okx_o {x : Str} (h : okx x = true) : (Sre.forSearch ipCode x.cps 0 0 x.cps.size false).outcome.isSome = false := by
  unfold okx at h
  simp only [Bool.and_eq_true, Bool.not_eq_true'] at h
  exact h.1.2
theorem okx_z {x : Str} (h : okx x = true) : x.cps.size ≤ 1000 := by
  unfold okx at h
  simp only [Bool.and_eq_true] at h
  exact Nat.le_of_ble_eq_true h.2

section
variable {f : Bool} {w : World} {A : Around} {env : Env} {ρ : Ro} {e : PySem.Expr} {pos apos npos : Pos} {x : Str}
theorem eb_search {o : PySem.Expr} {pl : Sem Bool} (ho : EV f w A env ρ o (R (.obj 36))) (he : EV f w A env ρ e (R (.str x))) (hok : okx x = true)
    (hc : eval (.Call (.Attribute o "search" apos) [e] [] pos) env = (do
      let ov ← eval o env
      standAt apos.atName
      let (f, first) ← holding [ov] (getMethod ov "search" pl)
      callWith pos f first (backTo pos (starEach [e] env)) []) := by rfl)
    (hstar : starEach (e :: []) env = (false, eval e env) :: starEach [] env := by rfl) : EB f w A env ρ (.Call (.Attribute o "search" apos) [e] [] pos) (ip x) := by
  refine eb_val (P := MM (ip x)) (ev_meth (pl := pl) ho (gm_pat slot_search type_search) (evs_cons he evs_nil hstar) (fun s v vs G r hv => ?_) hc hstar) (fun s v G r => tr_match r)
  obtain ⟨u, rfl, hu⟩ := sp1 hv
  exact op_search G r hu (okx_s hok) (Nat.le_trans (okx_z hok) (by omega)) (okx_o hok)
end

def firstC (x : Str) : Nat := (x.cps[0]?).getD 0
def lastC (x : Str) : Nat := ((seqIndex? (-1) x.length).bind (x.cps[·]?)).getD 0
def hdnP (x : Str) : Bool := if ip x then false else if x == "" then false else if ((⟨#[firstC x]⟩ : Str) == ".") || ((⟨#[lastC x]⟩ : Str) == ".") then false else true
theorem first_of {x : Str} (h : (x == "") = false) : (seqIndex? 0 x.length).bind (x.cps[·]?) = some (firstC x) := by
  have hz : x.cps.size ≠ 0 := fun q => by
    have : x = ("" : Str) := by
      cases x with | mk c =>
      have : c = #[] := by simpa using q
      subst this; rfl
    rw [this] at h; exact absurd h (by decide)
  have hl : x.length = x.cps.size := rfl
  unfold seqIndex? firstC
  rw [hl]
  have : (0:Int) < (x.cps.size : Int) := by omega
  simp [this]
  have : 0 < x.cps.size := by omega
  simp [this]
theorem last_of {x : Str} (h : (x == "") = false) : (seqIndex? (-1) x.length).bind (x.cps[·]?) = some (lastC x) := by
  have hz : x.cps.size ≠ 0 := fun q => by
    have : x = ("" : Str) := by
      cases x with | mk c =>
      have : c = #[] := by simpa using q
      subst this; rfl
    rw [this] at h; exact absurd h (by decide)
  unfold lastC
  have hl : x.length = x.cps.size := rfl
  have e : seqIndex? (-1) x.length = some (x.cps.size - 1) := by
    unfold seqIndex?
    rw [hl]
    have h1 : (0 : Int) ≤ -1 + (x.cps.size : Int) := by omega
    have h2 : (-1 + (x.cps.size : Int)) < x.cps.size := by omega
    simp [h1, h2]
    omega
  rw [e]
  have : x.cps.size - 1 < x.cps.size := by omega
  simp [this]

theorem hdn_spec (f : Bool) (w : World) (x : Str) (hok : okx x = true) : SpecOf f w 1 43 [.str x] (.bool (hdnP x)) := by
  refine spec_def (fd := fdOf w.params 43) (body := bodyOf w.params 43) (names := ["text"]) rfl rfl rfl ?_ rfl (by decide) (by rfl) ?_ (show ([] : List Str).Nodup from List.nodup_nil)
  · intro s vs hl G
    match vs, hl with
    | [v], _ => exact BindsTo.of_eq rfl
  · intro A L g hR G
    unfold hdnP
    refine xs_ifret (b := ip x) G (eb_search (ev_glob (v := .ref 36) (p := .obj 36) (fun _ => rfl) (fun h => .obj 36 (by decide))) (ev_name rfl) hok) (fun h => ?_) (fun h => ?_)
    · rw [h]
      exact xs_last (x_ret G ev_cbool)
    rw [h]
    refine xs_ifret (b := x == "") G (eb_cmp (P1 := R (.str x)) (P2 := R (.str "")) (ev_name rfl) ev_cstr (fun s a c _ ha hc => op_eq_str ha hc)) (fun h2 => ?_) (fun h2 => ?_)
    · rw [h2]
      exact xs_last (x_ret G ev_cbool)
    rw [h2]
    refine xs_ifret (b := (⟨#[firstC x]⟩ : Str) == "." || (⟨#[lastC x]⟩ : Str) == ".") G (eb_or2 (eb_cmp (P1 := R (.str ⟨#[firstC x]⟩)) (P2 := R (.str ".")) (ev_sub (P1 := R (.str x)) (P2 := R (.int 0)) (ev_name rfl) ev_cint (fun s a b _ ha hb => op_item_str ha hb (by decide) (by decide) (first_of h2))) ev_cstr (fun s a c _ ha hc => op_eq_str ha hc)) (fun _ => eb_cmp (P1 := R (.str ⟨#[lastC x]⟩)) (P2 := R (.str ".")) (ev_sub (P1 := R (.str x)) (P2 := R (.int (-1))) (ev_name rfl) (ev_neg ev_cint) (fun s a b _ ha hb => op_item_str ha hb (by decide) (by decide) (last_of h2))) ev_cstr (fun s a c _ ha hc => op_eq_str ha hc))) (fun h3 => ?_) (fun h3 => ?_)
    · rw [h3]
      exact xs_last (x_ret G ev_cbool)
    rw [h3]
    exact xs_last (x_ret G ev_cbool)
theorem lib_spec (f : Bool) (w : World) (x : Str) (hok : okx x = true) : SpecOf f w 1 50 [.str x] (.bool (!ip x)) := by
  refine spec_def (fd := fdOf w.params 50) (body := bodyOf w.params 50) (names := ["text"]) rfl rfl rfl ?_ rfl (by decide) (by rfl) ?_ (show ([] : List Str).Nodup from List.nodup_nil)
  · intro s vs hl G
    match vs, hl with
    | [v], _ => exact BindsTo.of_eq rfl
  · intro A L g hR G
    refine xs_ifret (b := ip x) G (eb_search (ev_glob (v := .ref 36) (p := .obj 36) (fun _ => rfl) (fun h => .obj 36 (by decide))) (ev_name rfl) hok) (fun h => ?_) (fun h => ?_)
    · rw [h]
      exact xs_last (x_ret G ev_cbool)
    rw [h]
    exact xs_last (x_ret G ev_cbool)
end Mine

/- C3 -/
open PySem PySem.Spec PySem.Calls PySem.W PyProof.Rows
set_option maxRecDepth 100000
namespace Mine
def udmL (a b : Str) : Bool := if !(!ip a && !ip b) then (if a == b then true else false) else
  if Txt.startswith b "." && Txt.endswith a b then true else if !(Txt.startswith b ".") && a == b then true else false
theorem udm_spec (f : Bool) (w : World) (x y a b : Str) (ha : Txt.lower x = a) (hb : Txt.lower y = b) (oa : okx a = true) (ob : okx b = true) (za : Builtin.Str.tooLong a.length = false) (zb : Builtin.Str.tooLong b.length = false) : SpecOf f w 2 57 [.str x, .str y] (.bool (udmL a b)) := by
  subst ha hb
  refine spec_def (fd := fdOf w.params 57) (body := bodyOf w.params 57) (names := ["A", "B"]) rfl rfl rfl ?_ rfl (by decide) (by rfl) ?_ (show ([] : List Str).Nodup from List.nodup_nil)
  · intro s vs hl G
    match vs, hl with
    | [v, u], _ => exact BindsTo.of_eq rfl
  · intro A L g hR G
    refine xs_one (x_set G (ev_meth0 (P1 := R (.str x)) (ev_name rfl) (gm_str F.slot_str_lower F.type_str_lower) (fun s v G r => m_lower r za)) off_R (.inl rfl)) ?_
    refine xs_one (x_set G (ev_meth0 (P1 := R (.str y)) (ev_name rfl) (gm_str F.slot_str_lower F.type_str_lower) (fun s v G r => m_lower r zb)) off_R (.inl rfl)) ?_
    unfold udmL
    refine xs_ifret (b := !(!ip (Txt.lower x) && !ip (Txt.lower y))) G (eb_not (eb_and2 (eb_bool (ev_call (n := 1) hR (ev_glob (v := .ref 50) (p := .obj 50) (fun _ => rfl) (fun h => .obj 50 (by decide))) (fun _ => rfl) (evs_cons (P := R (.str (Txt.lower x))) (ev_name rfl) evs_nil) (lib_spec f w _ oa))) (fun _ => eb_bool (ev_call (n := 1) hR (ev_glob (v := .ref 50) (p := .obj 50) (fun _ => rfl) (fun h => .obj 50 (by decide))) (fun _ => rfl) (evs_cons (P := R (.str (Txt.lower y))) (ev_name rfl) evs_nil) (lib_spec f w _ ob))))) (fun h => ?_) (fun h => ?_)
    · rw [h]
      refine xs_ifret (b := Txt.lower x == Txt.lower y) G (eb_cmp (P1 := R (.str (Txt.lower x))) (P2 := R (.str (Txt.lower y))) (ev_name rfl) (ev_name rfl) (fun s a c _ ha hc => op_eq_str ha hc)) (fun h2 => ?_) (fun h2 => ?_)
      · rw [h2]; exact xs_last (x_ret G ev_cbool)
      · rw [h2]; exact xs_last (x_ret G ev_cbool)
    rw [h]
    refine xs_one (x_set (P := R (.bool (Txt.startswith (Txt.lower y) "."))) G (ev_meth (P1 := R (.str (Txt.lower y))) (ev_name rfl) (gm_str F.slot_str_startswith F.type_str_startswith) (evs_cons (P := R (.str ".")) ev_cstr evs_nil) (fun s v vs G r hv => ?_)) off_R (.inl rfl)) ?_
    · obtain ⟨u, rfl, hu⟩ := sp1 hv
      exact m_starts r hu
    refine xs_ifret (b := Txt.startswith (Txt.lower y) "." && Txt.endswith (Txt.lower x) (Txt.lower y)) G (eb_and2 (eb_bool (ev_name rfl)) (fun _ => eb_bool (ev_meth (P1 := R (.str (Txt.lower x))) (ev_name rfl) (gm_str F.slot_str_endswith F.type_str_endswith) (evs_cons (P := R (.str (Txt.lower y))) (ev_name rfl) evs_nil) (fun s v vs G r hv => ?_)))) (fun h2 => ?_) (fun h2 => ?_)
    · obtain ⟨u, rfl, hu⟩ := sp1 hv
      exact m_ends r hu
    · rw [h2]; exact xs_last (x_ret G ev_cbool)
    rw [h2]
    refine xs_ifret (b := !(Txt.startswith (Txt.lower y) ".") && Txt.lower x == Txt.lower y) G (eb_and2 (eb_not (eb_bool (ev_name rfl))) (fun _ => eb_cmp (P1 := R (.str (Txt.lower x))) (P2 := R (.str (Txt.lower y))) (ev_name rfl) (ev_name rfl) (fun s a c _ ha hc => op_eq_str ha hc))) (fun h3 => ?_) (fun h3 => ?_)
    · rw [h3]; exact xs_last (x_ret G ev_cbool)
    rw [h3]
    exact xs_last (x_ret G ev_cbool)
def restP (h : Str) : Str := sliceS h (some (Txt.find h "." + 1)) none
def reachP (h : Str) : Str := if 0 ≤ Txt.find h "." then (if hdnP h && (decide (0 ≤ Txt.find (restP h) ".") || restP h == "local") then "." ++ restP h else h) else h
theorem reach_spec (f : Bool) (w : World) (x : Str) (hok : okx x = true) (hz : (restP x).length ≤ 1000) : SpecOf f w 2 64 [.str x] (.str (reachP x)) := by
  refine spec_def (fd := fdOf w.params 64) (body := bodyOf w.params 64) (names := ["h"]) rfl rfl rfl ?_ rfl (by decide) (by rfl) ?_ (show ([] : List Str).Nodup from List.nodup_nil)
  · intro s vs hl G
    match vs, hl with
    | [v], _ => exact BindsTo.of_eq rfl
  · intro A L g hR G
    refine xs_one (x_set (P := R (.int (Txt.find x "."))) G (ev_meth (P1 := R (.str x)) (ev_name rfl) (gm_str F.slot_str_find F.type_str_find) (evs_cons (P := R (.str ".")) ev_cstr evs_nil) (fun s v vs G r hv => ?_)) off_R (.inl rfl)) ?_
    · obtain ⟨u, rfl, hu⟩ := sp1 hv
      exact m_find r hu
    unfold reachP
    by_cases h0 : 0 ≤ Txt.find x "."
    · rw [if_pos h0]
      cases h1 : (hdnP x && (decide (0 ≤ Txt.find (restP x) ".") || restP x == "local")) with
      | true =>
        rw [if_pos rfl]
        refine xs_last (x_if (b := true) G (EB.cast (eb_cmp (P1 := R (.int (Txt.find x "."))) (P2 := R (.int 0)) (ev_name rfl) ev_cint (fun s a c _ ha hc => op_ge_int ha hc)) (by simpa using h0)) (fun _ => ?_) (fun q => by cases q))
        refine xs_one (x_set (P := R (.str (restP x))) G (ev_sub (P1 := R (.str x)) (P2 := SL (some (Txt.find x "." + 1)) none none) (ev_name rfl) (ev_slice (ep_some (ev_bin (P1 := R (.int (Txt.find x "."))) (P2 := R (.int 1)) (ev_name rfl) ev_cint (fun s a c _ ha hc => op_add_int ha hc))) ep_none ep_none) (fun s a b _ ha hb => op_str_slice (Nat.le_trans hz (by omega)) ha hb)) off_R (.inl rfl)) ?_
        refine xs_one (x_set (P := R (.int (Txt.find (restP x) "."))) G (ev_meth (P1 := R (.str (restP x))) (ev_name rfl) (gm_str F.slot_str_find F.type_str_find) (evs_cons (P := R (.str ".")) ev_cstr evs_nil) (fun s v vs G r hv => ?_)) off_R (.inl rfl)) ?_
        · obtain ⟨u, rfl, hu⟩ := sp1 hv
          exact m_find r hu
        refine xs_last (x_if (b := true) G (EB.cast (eb_and2 (eb_bool (ev_call (n := 1) hR (ev_glob (v := .ref 43) (p := .obj 43) (fun _ => rfl) (fun h => .obj 43 (by decide))) (fun _ => rfl) (evs_cons (P := R (.str x)) (ev_name rfl) evs_nil) (hdn_spec f w _ hok)))
          (fun _ => eb_or2 (eb_cmp (P1 := R (.int (Txt.find (restP x) "."))) (P2 := R (.int 0)) (ev_name rfl) ev_cint (fun s a c _ ha hc => op_ge_int ha hc)) (fun _ => eb_cmp (P1 := R (.str (restP x))) (P2 := R (.str "local")) (ev_name rfl) ev_cstr (fun s a c _ ha hc => op_eq_str ha hc)))) h1) (fun _ => ?_) (fun q => by cases q))
        exact xs_last (x_ret G (ev_bin (P1 := R (.str ".")) (P2 := R (.str (restP x))) ev_cstr (ev_name rfl) (fun s a c _ ha hc => op_add_str ha hc (by show 1 + _ ≤ _; omega))))
      | false =>
        rw [if_neg Bool.false_ne_true]
        refine xs_one (ρ' := [("i", R (.int (Txt.find (restP x) "."))), ("b", R (.str (restP x))), ("i", R (.int (Txt.find x "."))), ("h", R (.str x))]) (x_if (b := true) G (EB.cast (eb_cmp (P1 := R (.int (Txt.find x "."))) (P2 := R (.int 0)) (ev_name rfl) ev_cint (fun s a c _ ha hc => op_ge_int ha hc)) (by simpa using h0)) (fun _ => ?_) (fun q => by cases q)) (xs_last (x_ret G (ev_name rfl)))
        refine xs_one (x_set (P := R (.str (restP x))) G (ev_sub (P1 := R (.str x)) (P2 := SL (some (Txt.find x "." + 1)) none none) (ev_name rfl) (ev_slice (ep_some (ev_bin (P1 := R (.int (Txt.find x "."))) (P2 := R (.int 1)) (ev_name rfl) ev_cint (fun s a c _ ha hc => op_add_int ha hc))) ep_none ep_none) (fun s a b _ ha hb => op_str_slice (Nat.le_trans hz (by omega)) ha hb)) off_R (.inl rfl)) ?_
        refine xs_one (x_set (P := R (.int (Txt.find (restP x) "."))) G (ev_meth (P1 := R (.str (restP x))) (ev_name rfl) (gm_str F.slot_str_find F.type_str_find) (evs_cons (P := R (.str ".")) ev_cstr evs_nil) (fun s v vs G r hv => ?_)) off_R (.inl rfl)) ?_
        · obtain ⟨u, rfl, hu⟩ := sp1 hv
          exact m_find r hu
        refine xs_one (x_if (b := false) G (EB.cast (eb_and2 (eb_bool (ev_call (n := 1) hR (ev_glob (v := .ref 43) (p := .obj 43) (fun _ => rfl) (fun h => .obj 43 (by decide))) (fun _ => rfl) (evs_cons (P := R (.str x)) (ev_name rfl) evs_nil) (hdn_spec f w _ hok)))
          (fun _ => eb_or2 (eb_cmp (P1 := R (.int (Txt.find (restP x) "."))) (P2 := R (.int 0)) (ev_name rfl) ev_cint (fun s a c _ ha hc => op_ge_int ha hc)) (fun _ => eb_cmp (P1 := R (.str (restP x))) (P2 := R (.str "local")) (ev_name rfl) ev_cstr (fun s a c _ ha hc => op_eq_str ha hc)))) h1) (fun q => by cases q) (fun _ => xs_nil fun h F => ⟨rfl, F⟩)) (xs_nil fun h F => ⟨rfl, F⟩)
    · rw [if_neg h0]
      refine xs_one (x_if (b := false) G (EB.cast (eb_cmp (P1 := R (.int (Txt.find x "."))) (P2 := R (.int 0)) (ev_name rfl) ev_cint (fun s a c _ ha hc => op_ge_int ha hc)) (by simpa using h0)) (fun q => by cases q) (fun _ => xs_nil fun h F => ⟨rfl, F⟩)) ?_
      exact xs_last (x_ret G (ev_name rfl))
end Mine

/- Es1 -/
open PySem PySem.Spec PySem.Calls PySem.W PyProof.Rows
set_option maxRecDepth 100000
namespace Mine
def intKeys (es : Array DictEntry) : Bool := es.toList.all fun e => match e.key with | .int k _ => e.hash == hashInt k | _ => false
theorem keysOf_int {w : World} {es : Array DictEntry} (h : intKeys es = true) : KeysOf (intKind prg w) es := fun e he => by
  have := List.all_eq_true.mp h e (by simpa using he)
  cases hk : e.key with
  | int k t => rw [hk] at this; exact ⟨k, by simp [intKind, Value.isInt], show e.hash = hashInt k by simpa using this⟩
  | _ => rw [hk] at this; cases this
def isStrV (x : Str) : Option Value → Bool
  | some (.str y _) => x == y
  | _ => false
noncomputable def es71 (P : Params) : Array DictEntry := match (KK P).lookup 71 with
  | some ⟨_, _, .dict es _, _⟩ => es
  | _ => #[]
theorem map71 (P : Params) : ∃ ep, (KK P).lookup 71 = some ⟨.type "dict", none, .dict (es71 P) ep, #[]⟩ := ⟨_, rfl⟩
theorem keys71 (P : Params) : intKeys (es71 P) = true := by kernel_rfl
theorem dot71 (P : Params) : isStrV "\\." (findBy Value.isInt (es71 P) 46) = true := by kernel_rfl
theorem no71 (P : Params) : ([97, 98, 99, 108, 111, 55] : List Int).all (fun c => (findBy Value.isInt (es71 P) c).isNone) = true := by kernel_rfl
def escC (c : Nat) : Str := if c = 46 then "\\." else ⟨#[c]⟩
section
variable {f : Bool} {w : World} {A : Around} {s : Shared}
theorem lk_dot (G : Gd w s.heap) : Ev f w A (Builtin.Str.tableLookup (.ref 71) 46) (fun _ m => m = .text "\\.") s := fun E => by
  obtain ⟨ep, e⟩ := map71 w.params
  have hd := dot71 w.params
  unfold isStrV at hd
  unfold Builtin.Str.tableLookup
  refine wpAny_bind (wpAny_attempt (wpAny_bind (wpAny_mkInt ?_)))
  split at hd
  · rename_i y t hy
    have : ("\\." : Str) = y := by simpa using hd
    subst this
    refine wpAny_getItem_of (knd := intKind prg w) (f := findBy Value.isInt (es71 w.params)) (k := 46) (intKind_is _ _ _ _) ⟨_, _, _, G.K _ _ e, ⟨rfl, rfl, rfl⟩, rfl, keysOf_int (keys71 _), fun k => rfl⟩ hy ?_
    refine wpAny_bind (wpAny_pure ?_)
    exact wpAny_bind (wpAny_pure (wpAny_pure ⟨rfl, .toks⟩))
  · cases hd
theorem lk_none {c : Nat} (hc : c ∈ [97, 98, 99, 108, 111, 55]) (hh : A.handled = none) (G : Gd w s.heap) : Ev f w A (Builtin.Str.tableLookup (.ref 71) c) (fun _ m => m = .keep) s := fun E => by
  obtain ⟨ep, e⟩ := map71 w.params
  have hd := List.all_eq_true.mp (no71 w.params) (c : Int) (by simp at hc ⊢; omega)
  unfold Builtin.Str.tableLookup
  refine wpAny_bind (wpAny_attempt (wpAny_bind (wpAny_mkInt ?_)))
  refine wpAny_getItem_missing_of (knd := intKind prg w) (f := findBy Value.isInt (es71 w.params)) (k := c) (intKind_is _ _ _ _) (by decide) hh ⟨_, _, _, G.K _ _ e, ⟨rfl, rfl, rfl⟩, rfl, keysOf_int (keys71 _), fun k => rfl⟩ (by simpa using hd) fun h' ex he => ?_
  obtain ⟨kp, _, ob, t, e1, e2, e3⟩ := he
  refine wpAny_bind (wpAny_isInstance (T := "KeyError") (b := true) ⟨ob, e1, e2⟩ (by rw [isSubtype_type]; kernel_rfl) ?_)
  exact wpAny_bind (wpAny_rule (wpAny_pure ⟨rfl, .of_keeps kp⟩))
theorem op_translate {c : Nat} {a b : Value} (hc : c ∈ [46, 97, 98, 99, 108, 111, 55]) (hh : A.handled = none) (G : Gd w s.heap) (ha : Rp s.heap a (.str ⟨#[c]⟩)) (hb : Rp s.heap b (.obj 71)) : Ev f w A (call (.builtin "str.translate") [a, b]) (R (.str (escC c))).P s := fun E => by
  cases ha; cases hb
  rename_i t _
  refine wpAny_call (codeAny_call_builtin F.slot_str_translate.plain F.entry_str_translate (F.slot_str_translate.check _ _ _ _ _ _ _ _ (typeIs_str _ _ _) (F.args_str_translate_2 _ _) ?_))
  unfold Builtin.«str.translate»
  refine wpAny_bind (m := Builtin.Str.strOneArg _ _) (wpAny_pure ?_)
  have hc128 : c < 128 := by simp at hc; omega
  have hall : ((⟨#[c]⟩ : Str).cps.all (· < 128)) = true := by simp [hc128]
  have hlen : ((⟨#[c]⟩ : Str).length == 0) = false := rfl
  simp only [hlen, hall, Bool.false_eq_true, if_false]
  have h0 : Builtin.Str.tooLong 0 = false := by decide +kernel
  have h1 : Builtin.Str.tooLong 1 = false := by decide +kernel
  have h2 : Builtin.Str.tooLong 2 = false := by decide +kernel
  refine wpAny_bind ?_
  simp only [List.forIn_toArray, List.forIn_cons, List.forIn_nil, h0, Bool.false_eq_true, if_false, if_true, List.lookup_nil]
  rcases List.mem_cons.mp hc with rfl | hc'
  · refine wpAny_bind (wpAny_bind (wpAny_mono (lk_dot (f := f) G _) (fun m s₁ h₁ => ?_) fun _ _ e => e))
    obtain ⟨rfl, k₁⟩ := h₁
    refine wpAny_bind (wpAny_pure ?_)
    refine wpAny_bind (wpAny_rule ?_)
    refine wpAny_bind (wpAny_mono (lk_dot (f := f) (G.kp k₁.kp) _) (fun m s₂ h₂ => ?_) fun _ _ e => e)
    obtain ⟨rfl, k₂⟩ := h₂
    refine wpAny_pure (wpAny_pure ?_)
    have hl : 0 + ("\\." : Str).length = 2 := rfl
    simp only [hl, h2, Bool.false_eq_true, if_false]
    exact wpAny_bind (wpAny_mkStr (wpAny_pure ⟨.str _ _, (k₁.trans k₂).trans .toks⟩) (by rw [sizeLine_eq]; exact Nat.le_of_ble_eq_true rfl))
  · have hne : c ≠ 46 := fun q => by subst q; simp at hc'
    refine wpAny_bind (wpAny_bind (wpAny_mono (lk_none (A := A.in1) (f := f) hc' hh G _) (fun m s₁ h₁ => ?_) fun _ _ e => e))
    obtain ⟨rfl, k₁⟩ := h₁
    refine wpAny_bind (wpAny_pure ?_)
    refine wpAny_pure (wpAny_pure ?_)
    simp only [Nat.zero_add, h1, Bool.false_eq_true, if_false]
    refine wpAny_bind (wpAny_mkStr (wpAny_pure ⟨?_, k₁.trans .toks⟩) (by rw [sizeLine_eq]; exact Nat.le_of_ble_eq_true rfl))
    unfold escC
    rw [if_neg hne]
    exact .str _ _
end
end Mine

/- C4 -/
open PySem PySem.Spec PySem.Calls PySem.W PyProof.Rows
set_option maxRecDepth 100000
namespace Mine
theorem escape_spec (f : Bool) (w : World) (c : Nat) (hc : c ∈ [46, 97, 98, 99, 108, 111, 55]) : SpecOf f w 1 81 [.str ⟨#[c]⟩] (.str (escC c)) := by
  refine spec_def (fd := fdOf w.params 81) (body := bodyOf w.params 81) (names := ["pattern"]) rfl rfl rfl ?_ rfl (by decide) (by rfl) ?_ (show ([] : List Str).Nodup from List.nodup_nil)
  · intro s vs hl G
    match vs, hl with
    | [v], _ => exact BindsTo.of_eq rfl
  · intro A L g hR G
    refine xs_last (x_if (b := true) G (eb_bool (ev_callb (id := "isinstance") (ev_blt (v := .builtin "isinstance") (fun _ => rfl) (by rfl) (fun h => .bi _)) (evs_cons (P := R (.str ⟨#[c]⟩)) (ev_name rfl) (evs_cons (P := R (.ty "str")) (ev_blt (v := .type "str") (fun _ => rfl) (by rfl) (fun h => .ty _)) evs_nil)) (fun s vs G h => ?_))) (fun _ => ?_) (fun q => by cases q))
    · obtain ⟨a, b, rfl, ha, hb⟩ := sp2 h
      intro E
      have ha : Rp s.heap a (.str ⟨#[c]⟩) := ha
      have hb : Rp s.heap b (.ty "str") := hb
      cases ha; cases hb
      exact IsiPair.str_str ⟨.bool true, .refl _⟩
    · refine xs_last (x_ret G (ev_meth (P1 := R (.str ⟨#[c]⟩)) (ev_name rfl) (gm_str F.slot_str_translate F.type_str_translate) (evs_cons (P := R (.obj 71)) (ev_glob (v := .ref 71) (p := .obj 71) (fun _ => rfl) (fun h => .obj 71 (by decide))) evs_nil) (fun s v vs G r hv => ?_)))
      obtain ⟨u, rfl, hu⟩ := sp1 hv
      exact op_translate hc hR.1 G r hu
end Mine

/- Ap1 -/
open PySem PySem.Spec PySem.Calls PySem.W PyProof.Rows
set_option maxRecDepth 100000
namespace Mine
def boundApp (D : Addr) : Obj := { cls := .type "builtin_function_or_method", data := .fields #[.builtin "list.append", .ref D] }
theorem slot_mget : Slot "method_descriptor" "__get__" "method_descriptor.__get__" :=
  .of (owner := "method_descriptor") (n := "__get__") (by rw [typeLookup_type, builtinLookup_eq_fast]; kernel_rfl) (by decide +kernel) (by decide +kernel) (by decide +kernel)
    (by first | exact .inl (by decide +kernel) | exact .inr (by decide +kernel)) (by rw [isSubtype_type]; kernel_rfl)
theorem entry_mget : entryFor table "method_descriptor.__get__" = some Builtin.«method_descriptor.__get__» := entryFor_of_tree (by kernel_rfl)
theorem args_mget (a b c : Value) : argsOk "method_descriptor.__get__" ⟨[a, b, c], []⟩ := by unfold argsOk; kernel_rfl
theorem md_set : typeLookup (.type "method_descriptor") "__set__" = pure none := by rw [typeLookup_type, builtinLookup_eq_fast]; kernel_rfl
theorem md_del : typeLookup (.type "method_descriptor") "__delete__" = pure none := by rw [typeLookup_type, builtinLookup_eq_fast]; kernel_rfl
theorem spec_set : specialOf (.builtin "list.append") "__set__" = pure none := by
  unfold specialOf; rw [type_list_append]; show typeLookup (.type "method_descriptor") "__set__" = _; exact md_set
theorem spec_del : specialOf (.builtin "list.append") "__delete__" = pure none := by
  unfold specialOf; rw [type_list_append]; show typeLookup (.type "method_descriptor") "__delete__" = _; exact md_del
theorem spec_get : specialOf (.builtin "list.append") "__get__" = pure (some (.builtin "method_descriptor.__get__")) := by
  unfold specialOf; rw [type_list_append]; show typeLookup (.type "method_descriptor") "__get__" = _; exact slot_mget.lookup
section
variable {M : Model} {A : Around} {E : Value → Shared → Prop} {s : Shared} {D : Addr} {ys : Array Value} {n : Nat} {t : Tok}
theorem run_mget {P : Fin → Shared → Prop} (hD : s.heap.get? D = some { cls := .type "list", data := .seq ys n }) (h : P (.done (.ret (.ref s.heap.objs.size))) { s with heap := s.heap.push (boundApp D) }) :
    wpAny M A (Builtin.«method_descriptor.__get__» ⟨[.builtin "list.append", .ref D, .type "list"], []⟩) P E s := by
  unfold Builtin.«method_descriptor.__get__»
  refine wpAny_bind (wpAny_of_eq (a := (.builtin "list.append", some (.ref D), some (.type "list"))) (by first | rfl | kernel_rfl) ?_)
  have ht : Manifest.toldItsClass.contains "list.append" = false := by decide +kernel
  simp only [ht, Bool.false_eq_true, if_false]
  have hT : s.TypeIs (.ref D) "list" := ⟨_, hD, rfl⟩
  have hS : isSubtype (.type "list") (.type "list") = pure true := by rw [isSubtype_type]; kernel_rfl
  obtain ⟨hp, g, d, tk, os⟩ := s
  wp_step
  wp_step
  wp_step
  wp_step
  refine wpAny_of_eq (a := (Str.ofString "append", .type "list")) (by kernel_rfl) ?_
  refine wpAny_bind (wpAny_isInstance hT hS ?_)
  refine wpAny_pure ?_
  exact wpAny_bind (wpAny_newObj_type (wpAny_pure h))

theorem run_ga {P : Fin → Shared → Prop} {prog : Program} {w : World} (hD : s.heap.get? D = some { cls := .type "list", data := .seq ys n }) (h : P (.done (.ret (.ref s.heap.objs.size))) { s with heap := s.heap.push (boundApp D) }) :
    wpAny (model prog w) A (Builtin.«object.__getattribute__» ⟨[.ref D, .str "append" t], []⟩) P E s := by
  have hT : s.TypeIs (.ref D) "list" := ⟨_, hD, rfl⟩
  unfold Builtin.«object.__getattribute__»
  refine wpAny_bind (wpAny_of_eq (a := (.ref D, [.str "append" t])) rfl ?_)
  refine wpAny_bind (wpAny_of_eq (a := Str.ofString "append") rfl ?_)
  refine wpAny_bind (wpAny_typeOf hT ?_)
  refine wpAny_bind (m := Builtin.ObjectAttr.find _ _ _) ?_
  unfold Builtin.ObjectAttr.find
  refine wpAny_bind (wpAny_of_eq slot_list_append.lookup ?_)
  refine wpAny_bind (m := Builtin.ObjectAttr.getOf _) (wpAny_of_eq spec_get ?_)
  refine wpAny_bind (m := Builtin.ObjectAttr.dataDescriptor? _ _) ?_
  unfold Builtin.ObjectAttr.dataDescriptor? Builtin.ObjectAttr.takesStores
  refine wpAny_bind (wpAny_bind (wpAny_of_eq spec_set ?_))
  refine wpAny_bind (wpAny_of_eq spec_del ?_)
  refine wpAny_pure (wpAny_pure ?_)
  unfold Builtin.ObjectAttr.ownThenClass
  refine wpAny_bind (m := Builtin.ObjectAttr.inOwnDict _ _) ?_
  unfold Builtin.ObjectAttr.inOwnDict Builtin.ObjectAttr.ownDict
  refine wpAny_bind (wpAny_bind (m := loadHead D) (wpAny_load hD ?_))
  refine wpAny_bind (m := loadPart D (some headPart)) (wpAny_load hD ?_)
  refine wpAny_pure ?_
  refine wpAny_pure ?_
  refine wpAny_bind (m := Builtin.ObjectAttr.copiedAttributeGuard _ _) (wpAny_of_eq (a := ()) rfl ?_)
  refine wpAny_bind (wpAny_rule (wpAny_pure ?_))
  refine wpAny_bind (m := holding _ _) (wpAny_holding ?_)
  refine wpAny_call_entry slot_mget type_list_append entry_mget (run_mget hD ⟨_, rfl, ?_⟩) (args_mget _ _ _)
  exact wpAny_pure h
theorem attr_append {prog : Program} {w : World} {env : Env} {value : PySem.Expr} {pos : Pos} {f : Bool} {Q : Value → Shared → Prop} (hv : wpAny (model prog w) A (eval value env) (fun v s' => ∃ D ys n, v = .ref D ∧ s'.heap.get? D = some { cls := .type "list", data := .seq ys n } ∧
      ∀ k, Q (.ref s'.heap.objs.size) { s' with heap := s'.heap.push (boundApp D), toks := k }) E s)
    (hb : attributeBase value "append" env (eval value env) = eval value env := by rfl) : wpAny (model prog w) A (eval (.Attribute value "append" pos) env) Q E s := by
  rw [arm_eval_Attribute, hb]
  refine wpAny_bind (wpAny_mono hv (fun v s' h => ?_) fun _ _ e => e)
  obtain ⟨D, ys, n, rfl, hD, hQ⟩ := h
  have hT : s'.TypeIs (.ref D) "list" := ⟨_, hD, rfl⟩
  refine wpAny_bind (wpAny_standAt (wpAny_bind (wpAny_holding ?_)))
  unfold getAttr
  refine wpAny_bind (m := mkText _) (wpAny_mkStr (x := "append") ?_ (by rw [sizeLine_eq]; exact Nat.le_of_ble_eq_true rfl))
  unfold getAttrBy
  refine wpAny_holding (wpAny_bind (wpAny_typeOf (s := { s' with toks := s'.toks + 1 }) hT ?_))
  refine wpAny_bind (wpAny_of_eq list_getattribute ?_)
  show wpAny _ _ (getAttrByItsOwn _ _ _ _ _ _) _ _ _
  unfold getAttrByItsOwn
  refine wpAny_bind (m := hookBefore _) (wpAny_of_eq (a := none) rfl ?_)
  refine wpAny_bind (wpAny_attempt (wpAny_holding ?_))
  show wpAny _ _ (boundAndCalled _ _ _) _ _ _
  unfold boundAndCalled
  refine wpAny_bind (wpAny_of_eq (F.slot_list_getattribute.bind _) ?_)
  refine wpAny_call_entry F.slot_list_getattribute (s := { s' with toks := s'.toks + 1 }) hT am_entry_list_getattribute (run_ga (s := { s' with toks := s'.toks + 1 }) hD ⟨_, rfl, ?_⟩) (F.args_list_getattribute_2 _ _)
  refine wpAny_of_eq (a := .ref s'.heap.objs.size) rfl ?_
  exact wpAny_bind (wpAny_letTemporaryGo (wpAny_pure (hQ _)))

theorem check_app {M : Model} {A : Around} {E : Value → Shared → Prop} {s : Shared} {D : Addr} {ys : Array Value} {n : Nat} {x : Value} {Q : Unit → Shared → Prop} (hD : s.heap.get? D = some { cls := .type "list", data := .seq ys n }) (h : Q () s) : wpAny M A (checkBoundCall "list.append" ⟨[.ref D, x], []⟩) Q E s := by
  have hT : s.TypeIs (.ref D) "list" := ⟨_, hD, rfl⟩
  have hsig : (match Manifest.signature? "list.append" with | some sig => Bind.checkArgs "list.append" { sig with full := "list.append" } ⟨[.ref D, x], []⟩ | none => pure ()) = pure () := by kernel_rfl
  have hk : builtinKind "list.append" = some .method := by decide +kernel
  have hno : isSubtype (.type "list") (.type "module") = pure false := by rw [isSubtype_type]; kernel_rfl
  have hva : Manifest.varargsMethods.contains "list.append" = false := by decide +kernel
  have hlast : Bind.lastOf "list.append" = "append" := by decide +kernel
  have hlast2 : Bind.lastOf "list" = "list" := by decide +kernel
  unfold checkBoundCall
  cases hs : Manifest.signature? "list.append" with
  | none => exact wpAny_pure h
  | some sig =>
  rw [hs] at hsig
  have e2 : Bind.checkArgs "list.append" { sig with full := "list.append" } ⟨[.ref D, x], []⟩ = pure () := hsig
  simp only [hk]
  refine wpAny_bind (wpAny_isInstance hT hno ?_)
  simp only [hva, Bool.or_false, Bool.false_eq_true, if_false]
  refine wpAny_bind (m := isType _) (wpAny_bind (m := loadHead D) (wpAny_load hD (wpAny_pure ?_)))
  simp only [Bool.false_eq_true, if_false]
  refine wpAny_bind (wpAny_typeOf hT ?_)
  simp only [hlast, hlast2]
  have e3 : (s!"{"list"}.{"append"}" : String) = "list.append" := by decide +kernel
  rw [e3, e2]
  exact wpAny_pure h

theorem callWith_app {M : Model} {A : Around} {E : Value → Shared → Prop} {s : Shared} {pos : Pos} {u D : Addr} {args : List (Bool × Sem Value)} {Q : Value → Shared → Prop} (hplain : args.any (·.1) = false)
    (h : wpAny M A (evalArgs (.ref u) true args []) (fun x s₁ => s₁.heap.get? u = some (boundApp D) ∧ wpAny M A (call (.ref u) x.pos x.kw) Q E s₁) E s) : wpAny M A (callWith pos (.ref u) [] args []) Q E s := by
  unfold callWith
  refine wpAny_bind (wpAny_holding (wpAny_mono h (fun x s₁ h₁ => wpAny_bind (wpAny_standAt ?_)) fun _ _ x => x))
  obtain ⟨ho, hcall⟩ := h₁
  simp only [hplain, List.any_nil, Bool.or_false]
  refine wpAny_bind (m := keeperOf (.ref u)) ?_
  unfold keeperOf
  refine wpAny_bind (wpAny_load ho ?_)
  simp only [boundApp, show (Value.type "builtin_function_or_method" != Value.type "method") = true by decide, show (Value.type "builtin_function_or_method" == Value.type "builtin_function_or_method" || Value.type "builtin_function_or_method" == Value.type "method-wrapper") = true by decide, if_true]
  refine wpAny_pure ?_
  exact wpAny_bind (wpAny_mono hcall (fun r s₂ hr => wpAny_bind (wpAny_holding (wpAny_point (wpAny_pure hr)))) fun _ _ x => x)
theorem if_so {α : Type} {M : Model} {A : Around} {E : Value → Shared → Prop} {s : Shared} {c : Bool} {a b : Sem α} {Q : α → Shared → Prop} (hc : c = true) (h : wpAny M A a Q E s) : wpAny M A (if c = true then a else b) Q E s := by
  subst hc
  exact h
theorem call_app {prog : Program} {w : World} {A : Around} {E : Value → Shared → Prop} {s : Shared} {u D : Addr} {ys : Array Value} {v : Value} {Q : Value → Shared → Prop} (hu : s.heap.get? u = some (boundApp D)) (hD : s.heap.PlainList D ys)
    (h : ∀ h', h'.PlainList D (ys.push v) → Heap.SameBut D s.heap h' → Q .none { s with heap := h' }) (hsz : ys.size ≤ sizeLine) : wpAny (model prog w) A (call (.ref u) [v]) Q E s := by
  obtain ⟨n, ho⟩ := hD
  refine wpAny_call (codeAny_of_tree ?_)
  show wpAny _ A.in1 (callAny (.ref u) ⟨[v], []⟩) _ _ s
  simp only [callAny]
  refine wpAny_bind (wpAny_load hu ?_)
  simp only [boundApp, show (Value.type "builtin_function_or_method" == Value.type "method" || Value.type "builtin_function_or_method" == Value.type "builtin_function_or_method" || Value.type "builtin_function_or_method" == Value.type "method-wrapper") = true by decide, if_true]
  refine if_so (by decide) ?_
  refine wpAny_bind (check_app ho ?_)
  refine wpAny_bind (wpAny_pure (wpAny_pure ?_))
  refine ⟨plainId_quiet slot_list_append.plain _, codeAny_builtin entry_list_append ?_⟩
  show wpAny _ _ (updateSeq D (·.push v) >>= fun _ => ret .none) _ _ s
  refine wpAny_bind ?_
  refine wpAny_updateSeq ho rfl (wpAny_pure (h _ ⟨n + 1, ?_⟩ (Heap.SameBut.update ..)))
  rw [Heap.get?_update_self _ ho (by rw [Obj.mapSeq_push_plain]; rfl), Obj.mapSeq_push_plain]
end
end Mine

/- L7 -/
open PySem PySem.Spec PySem.Calls PySem.W PyProof.Rows
namespace Mine

theorem occ_size {q p : PV} (h : Occ q p) : sizeOf q ≤ sizeOf p := by
  induction h with
  | here => exact Nat.le_refl _
  | deep h m ih =>
    have := List.sizeOf_lt_of_mem m
    rename_i p l
    have e : sizeOf (PV.list l) = 1 + sizeOf l := PV.list.sizeOf_spec l
    omega
theorem not_occ_mem {ps : List PV} {q : PV} (h : q ∈ ps) : ¬ Occ (.list ps) q := fun o => by
  have a := occ_size o
  have b := List.sizeOf_lt_of_mem h
  have : sizeOf (PV.list ps) = 1 + sizeOf ps := PV.list.sizeOf_spec ps
  omega
theorem not_occ_atom {ps : List PV} {q : PV} (h : ∀ l, q ≠ .list l) : ¬ Occ (.list ps) q := fun o => by
  cases o with
  | here => exact h _ rfl
  | deep _ _ => exact h _ rfl

/-- the list at D holds ps -/
def At (D : Addr) (ps : List PV) : SP := .mk0 (fun h v => v = .ref D ∧ Rp h (.ref D) (.list ps)) (fun t k ⟨e, r⟩ => ⟨e, Rp.kp k t r⟩) (fun _ _ _ _ k ⟨e, r⟩ => ⟨e, Rp.st k r⟩)
/-- D.append -/
def Bd (D : Addr) : SP := .mk0 (fun h v => ∃ u, v = .ref u ∧ h.get? u = some (boundApp D)) (fun t k ⟨u, e, r⟩ => ⟨u, e, k.get t r (fun ps q => by cases q)⟩) (fun _ _ _ _ k ⟨u, e, r⟩ => ⟨u, e, k.get r (not_frameish rfl (fun _ _ q => by cases q) (fun _ q => by cases q))⟩)
def Off1 (D : Addr) (ps : List PV) (sp : SP) : Prop := ∀ h h' v, Rp h (.ref D) (.list ps) → (∀ b o, b ≠ D → h.get? b = some o → h'.get? b = some o) → sp.P h v → sp.P h' v
theorem off1_R {D : Addr} {ps : List PV} {q : PV} (n : ¬ Occ (.list ps) q) : Off1 D ps (R q) := fun h h' v r k x => by
  cases r with
  | list z l r => exact Rp.off l r k x n
theorem off1_atom {D : Addr} {ps : List PV} {q : PV} (n : ∀ l, q ≠ .list l) : Off1 D ps (R q) := off1_R (not_occ_atom n)
theorem off1_Bd {D D' : Addr} {ps : List PV} : Off1 D ps (Bd D') := fun h h' v r k ⟨u, e, x⟩ => ⟨u, e, k _ _ (fun q => by
  subst q
  cases r with
  | list z l r => obtain ⟨n, e⟩ := l; rw [e] at x; have := congrArg (fun o => o.map Obj.cls) x; simp [boundApp] at this) x⟩
def Keep1 (D : Addr) (ps : List PV) (ρ ρ' : Ro) : Prop := ∀ y sp, ρ'.lookup y = some sp → ρ.lookup y = some sp ∧ Off1 D ps sp
theorem keep1_nil {D : Addr} {ps : List PV} {ρ : Ro} : Keep1 D ps ρ [] := fun _ _ e => by cases e
theorem keep1_cons {D : Addr} {ps : List PV} {ρ ρ' : Ro} {y : Str} {sp : SP} (o : Off1 D ps sp) (h : Keep1 D ps ρ ρ') (e : ρ.lookup y = some sp := by rfl) : Keep1 D ps ρ ((y, sp) :: ρ') := fun z q e' => by
  rw [List.lookup_cons] at e'
  cases hz : z == y with
  | true => rw [hz] at e'; cases e'; rw [beq_iff_eq.mp hz]; exact ⟨e, o⟩
  | false => rw [hz] at e'; exact h z q e'
def Sub (ρ ρ' : Ro) : Prop := ∀ y sp, ρ'.lookup y = some sp → ρ.lookup y = some sp
theorem sub_nil {ρ : Ro} : Sub ρ [] := fun _ _ e => by cases e
theorem sub_cons {ρ ρ' : Ro} {y : Str} {sp : SP} (h : Sub ρ ρ') (e : ρ.lookup y = some sp := by rfl) : Sub ρ ((y, sp) :: ρ') := fun z q e' => by
  rw [List.lookup_cons] at e'
  cases hz : z == y with
  | true => rw [hz] at e'; cases e'; rw [beq_iff_eq.mp hz]; exact e
  | false => rw [hz] at e'; exact h z q e'
theorem FrS.sub {env : Env} {g h : Heap} {ρ ρ' : Ro} (F : FrS env g h ρ) (s : Sub ρ ρ') : FrS env g h ρ' :=
  ⟨F.loc, F.cel, F.fresh, F.apart, F.ne, fun y sp e => F.vars y sp (s y sp e), fun y sp e => F.offs y sp (s y sp e)⟩

theorem Var.frame {env : Env} {h h' : Heap} {x : Str} {v : Value} (hv : Var h env x v) (k : ∀ b ∈ ownOf env, ∀ o, h.get? b = some o → h'.get? b = some o) : Var h' env x v := by
  rcases hv with ⟨a, m, n, e⟩ | ⟨a, c, e, o, ho, hd⟩
  · exact .inl ⟨a, m, n.at' fun o e => k _ (.head _) o e, e⟩
  · exact .inr ⟨a, c, e, o, k _ (List.mem_cons_of_mem _ (List.mem_map.mpr ⟨_, mem_lookup e, rfl⟩)) _ ho, hd⟩
theorem FrS.frame {env : Env} {g h h' : Heap} {ρ ρ' : Ro} (F : FrS env g h ρ) (k : ∀ b ∈ ownOf env, ∀ o, h.get? b = some o → h'.get? b = some o) (hv : ∀ y sp, ρ'.lookup y = some sp → ∃ v, Var h env y v ∧ sp.P h' v) (ho : Offs (ownOf env) ρ') : FrS env g h' ρ' where
  loc := let ⟨m, n⟩ := F.loc; ⟨m, n.at' fun o e => k _ (.head _) o e⟩
  cel := fun x c hm => let ⟨v, o, e, hd⟩ := F.cel x c hm; ⟨v, o, k _ (List.mem_cons_of_mem _ (List.mem_map.mpr ⟨_, hm, rfl⟩)) _ e, hd⟩
  fresh := F.fresh
  apart := F.apart
  ne := F.ne
  vars := fun y sp e => let ⟨v, a, b⟩ := hv y sp e; ⟨v, a.frame k, b⟩
  offs := ho
theorem frame_ne {env : Env} {g h : Heap} {ρ : Ro} {D : Addr} {ys : Array Value} (F : FrS env g h ρ) (hD : h.PlainList D ys) : D ∉ ownOf env := fun q => by
  obtain ⟨o, e, f⟩ := F.fr D q
  exact (noCode ⟨o, e, f⟩).2 _ hD

section
variable {f : Bool} {w : World} {A : Around} {env : Env} {g : Heap} {mu : List Addr} {ρ ρ' : Ro} {e arg fe : PySem.Expr} {P P1 P2 : SP} {pos cpos apos pos' : Pos} {x : Str} {Q : Post} {rest body : List Stmt} {p : PV} {ps : List PV} {D : Addr}

/-- what an append leaves -/
theorem pushed (G : Gd w g) {s : Shared} {h' : Heap} {v : Value} {ys : Array Value} (hn : New g D) (hm : D ∈ mu) (K : Kp f g s.heap) (F : FrS env g s.heap ρ) (hx : ρ.lookup x = some (At D ps)) (hv : Rp s.heap v p) (ho : ¬ Occ (.list ps) p)
    (hk : Keep1 D ps ρ ρ') (hl : h'.PlainList D (ys.push v)) (hs : Heap.SameBut D s.heap h') (hy : s.heap.PlainList D ys) :
    FrS env g h' ((x, At D (ps ++ [p])) :: ρ') ∧ Kp f g h' ∧ RO f (ownOf env ++ mu) s { s with heap := h' } := by
  have keep : ∀ b o, b ≠ D → s.heap.get? b = some o → h'.get? b = some o := fun b o hb e => hs.extBut b o hb e
  have hD := frame_ne F hy
  obtain ⟨u, hu, eu, ru⟩ := F.vars x _ hx
  have r0 := ru
  cases ru with
  | list z l r =>
    rename_i vs
    have := PlainList.uniq hy l
    subst this
    refine ⟨F.frame (fun b hb o e => keep b o (fun q => hD (q ▸ hb)) e) ?_ (offs_cons off_any fun y sp e => F.offs y sp (hk y sp e).1), Kp.but (wr := [D]) K G.tb (fun b o hb e => keep b o (fun q => hb (by simp [q])) e) (fun b hb => by rw [List.mem_singleton.mp hb]; exact hn.1) (fun b hb => by rw [List.mem_singleton.mp hb]; exact hn.2) (fun b hb => by rw [List.mem_singleton.mp hb]; exact noCodeL hy),
      ⟨.ofH, fun b o n1 n2 n3 e => keep b o (fun q => n1 (q ▸ List.mem_append_right _ hm)) e⟩⟩
    intro y sp e
    rw [List.lookup_cons] at e
    cases hyx : y == x with
    | true =>
      rw [hyx] at e; cases e
      rw [beq_iff_eq.mp hyx]
      refine ⟨u, hu, eu, ?_⟩
      have hl' : h'.PlainList D (vs ++ [v]).toArray := by simpa using hl
      refine .list z hl' (Rps.append (Rps.off hy (by simpa using r) keep r fun q hq => not_occ_mem hq) (.cons (Rp.off hy (by simpa using r) keep hv ho) .nil))
    | false =>
      rw [hyx] at e
      obtain ⟨e1, o1⟩ := hk y sp e
      obtain ⟨v', a, b⟩ := F.vars y sp e1
      exact ⟨v', a, o1 _ _ _ r0 keep b⟩
/-- add(arg); -/
theorem x_add (G : Gd w g) (hn : New g D) (hm : D ∈ mu) (hf : EV f w A env ρ fe (Bd D)) (ha : EV f w A env ρ arg (R p)) (hx : ρ.lookup x = some (At D ps)) (ho : ¬ Occ (.list ps) p) (hz : ps.length ≤ 1000000) (hk : Keep1 D ps ρ ρ')
    (hc : ∀ k, eval (.Call fe [arg] k cpos) env = (do callWith cpos (← eval fe env) [] (backTo cpos (starEach [arg] env)) (backToKw cpos (keywordEach k env))) := by intro _; rfl)
    (he : starEach [arg] env = (false, eval arg env) :: starEach [] env := by rfl)
    (hi : interactive env = false := by rfl) (hs : swapsWith (.Call fe [arg] [] cpos) none pos.line env = pure false := by rfl) :
    X1 f w A env g mu ρ (.Expr (.Call fe [arg] [] cpos) pos) (nextP env g ((x, At D (ps ++ [p])) :: ρ')) := fun s K F E => by
  refine wpAny_Expr ?_ hi hs
  rw [hc]
  refine wpAny_bind (hf.run G K F fun v s₁ hv K₁ F₁ k₁ => ?_)
  obtain ⟨u, rfl, hu⟩ := hv
  show wpAny _ _ (callWith cpos (.ref u) [] (backTo cpos (starEach [arg] env)) []) _ _ _
  rw [he]
  show wpAny _ _ (callWith cpos (.ref u) [] ((false, eval arg env) :: backTo cpos (starEach [] env)) []) _ _ _
  refine callWith_app (D := D) rfl (evalArgs_plain ?_)
  refine spliced_cons (ha.run G K₁ F₁ fun v s₂ hv K₂ F₂ k₂ => spliced_nil ?_)
  have hu₂ : s₂.heap.get? u = some (boundApp D) := k₂.kp.get (G.kp K₁).tb hu (fun ps q => by cases q)
  refine ⟨hu₂, ?_⟩
  obtain ⟨_, _, _, ru⟩ := F₂.vars x _ hx
  cases ru with
  | list z l r =>
    have hlen := r.length
    refine call_app hu₂ l (fun h' hl hsb => ?_) (by rw [List.size_toArray, hlen, sizeLine_eq]; omega)
    obtain ⟨F₃, K₃, R₃⟩ := pushed G hn hm K₂ F₂ hx hv ho hk hl hsb l
    exact ⟨⟨rfl, F₃⟩, K₃, ((RO.of k₁).trans (.of k₂)).trans R₃⟩
/-- x.append(arg); -/
theorem x_append {pl : Sem Bool} (G : Gd w g) (hn : New g D) (hm : D ∈ mu) (ha : EV f w A env ρ arg (R p)) (hx : ρ.lookup x = some (At D ps)) (ho : ¬ Occ (.list ps) p) (hz : ps.length ≤ 1000000) (hk : Keep1 D ps ρ ρ')
    (hc : eval (.Call (.Attribute (.Name x pos') "append" apos) [arg] [] cpos) env = (do
      let ov ← eval (.Name x pos') env
      standAt apos.atName
      let (f, first) ← holding [ov] (getMethod ov "append" pl)
      callWith cpos f first (backTo cpos (starEach [arg] env)) []) := by rfl)
    (he : starEach [arg] env = (false, eval arg env) :: starEach [] env := by rfl)
    (hkd : env.scope.kind = .function := by rfl) (hd1 : (x == ("__debug__" : Str)) = false := by decide) (hd2 : (x == ("__classdict__" : Str)) = false := by decide)
    (hi : interactive env = false := by rfl) (hs : swapsWith (.Call (.Attribute (.Name x pos') "append" apos) [arg] [] cpos) none pos.line env = pure false := by rfl) :
    X1 f w A env g mu ρ (.Expr (.Call (.Attribute (.Name x pos') "append" apos) [arg] [] cpos) pos) (nextP env g ((x, At D (ps ++ [p])) :: ρ')) := fun s K F E => by
  refine wpAny_Expr ?_ hi hs
  refine MethodCall_ (pl := pl) ((ev_name (f := f) (w := w) (A := A) (P := At D ps) hx hkd hd1 hd2).run G K F fun v s₁ hv K₁ F₁ k₁ => ?_) hc
  obtain ⟨rfl, hv⟩ := hv
  cases hv with
  | list z0 l0 r0 =>
    obtain ⟨n0, e0⟩ := l0
    refine getMethod_list_append e0 rfl rfl ?_
    refine callWith_method1 ?_ he rfl
    show wpAny _ _ (spliced (backTo cpos (starEach [arg] env))) _ _ _
    rw [he]
    refine spliced_cons (ha.run G K₁ F₁ fun v s₂ hv K₂ F₂ k₂ => spliced_nil ?_)
    obtain ⟨_, _, _, ru⟩ := F₂.vars x _ hx
    cases ru with
    | list z l r =>
      have hlen := r.length
      refine wpAny_list_append_plain l (fun h' hl hsb => ?_) (by rw [List.size_toArray, hlen, sizeLine_eq]; omega)
      obtain ⟨F₃, K₃, R₃⟩ := pushed G hn hm K₂ F₂ hx hv ho hk hl hsb l
      exact ⟨⟨rfl, F₃⟩, K₃, ((RO.of k₁).trans (.of k₂)).trans R₃⟩
/-- x = [] -/
theorem xs_newlist (G : Gd w g) (hx : env.kindOf x = some .local ∨ (env.kindOf x = some .cell ∧ (env.cells.lookup x).isSome = true)) (h : ∀ D, New g D → XS f w A env g (D :: mu) ((x, At D []) :: ρ) rest Q) (hk : env.scope.kind = .function := by rfl)
    (hs : swapsWith (.List [] apos) (some (.Name x pos')) pos.line env = pure false := by rfl) (he : starEach [] env = [] := by rfl) : XS f w A env g mu ρ (.Assign [.Name x pos'] (.List [] apos) pos :: rest) Q := fun s K F E => by
  refine wpAny_execs_cons (wpAny_Assign_Name (List_ ?_) hs)
  rw [he]
  refine spliced_nil (wpAny_newObj_type ?_ (show (0 : Nat) ≤ sizeLine from Nat.zero_le _))
  have nD : New g s.heap.objs.size := new_of K G.tb (Nat.le_refl _)
  have k₁ : Kps f s { s with heap := s.heap.push { cls := .type "list", data := .seq ([] : List Value).toArray } } := .push'
  have K₁ := K.trans k₁.kp
  have F₁ := F.kp k₁.kp (G.kp K).tb
  refine store_ (P := At s.heap.objs.size []) F₁ K₁ ⟨rfl, .list (G.kp K).sz ⟨0, Heap.get?_push_size _ rfl⟩ .nil⟩ off_any hk hx fun s₂ K₂ F₂ R₂ _ => ?_
  refine wpAny_mono (h _ nD s₂ K₂ F₂ E) (fun fl s₃ q => ⟨q.1, q.2.1, ?_⟩) fun _ _ e => e
  have r1 : RO f (ownOf env ++ (s.heap.objs.size :: mu)) s s₃ := ((RO.of k₁).trans R₂.left).trans q.2.2
  refine r1.sub fun b hb => ?_
  rcases List.mem_append.mp hb with z | z
  · exact .inl (List.mem_append_left _ z)
  · rcases List.mem_cons.mp z with rfl | z
    · exact .inr (get_none_of_le (Nat.le_refl _))
    · exact .inl (List.mem_append_right _ z)
end
end Mine

/- L8 -/
open PySem PySem.Spec PySem.Calls PySem.W PyProof.Rows
namespace Mine
section
variable {f : Bool} {w : World} {A : Around} {env : Env} {g : Heap} {mu : List Addr} {ρ ρ' : Ro} {e test iter : PySem.Expr} {P P1 P2 : SP} {pos px : Pos} {x : Str} {Q : Post} {rest body : List Stmt} {ps : List PV}

theorem xs_sub {ρ' : Ro} (h : Sub ρ ρ') : XS f w A env g mu ρ [] (nextP env g ρ') := xs_nil fun h' F => ⟨rfl, F.sub h⟩
theorem x_while (G : Gd w g) {n : Nat} {ρs : Nat → Ro} (ht : ∀ k, k ≤ n → EB f w A env (ρs k) test (decide (k < n))) (hb : ∀ k, k < n → XS f w A env g mu (ρs k) body (nextP env g (ρs (k + 1)))) : X1 f w A env g mu (ρs 0) (.While test body [] pos) (nextP env g (ρs n)) := fun s K F E => by
  refine wpAny_While (codeAny_whileLoop (fun m s' => ∃ k, k ≤ n ∧ m = n - k ∧ Kp f g s'.heap ∧ FrS env g s'.heap (ρs k) ∧ RO f (ownOf env ++ mu) s s') (fun m s₁ hI => ?_) n ⟨0, Nat.zero_le _, rfl, K, F, .refl _⟩)
  obtain ⟨k, hk, rfl, K₁, F₁, R₁⟩ := hI
  refine (ht k hk).run G K₁ F₁ fun s₂ K₂ F₂ k₂ => ?_
  by_cases hlt : k < n
  · rw [if_pos (by simpa using hlt)]
    refine wpAny_mono (hb k hlt s₂ K₂ F₂ _) (fun fl s₃ q => ?_) fun _ _ e => e
    obtain ⟨⟨rfl, F₃⟩, K₃, R₃⟩ := q
    exact ⟨n - (k + 1), by omega, k + 1, hlt, rfl, K₃, F₃, (R₁.trans (.of k₂)).trans R₃⟩
  · rw [if_neg (by simpa using hlt)]
    have : k = n := by omega
    subst this
    exact wpAny_execs_nil ⟨⟨rfl, F₂⟩, K₂, R₁.trans (.of k₂)⟩
/-- while True, with a break in round n -/
theorem x_whileB (G : Gd w g) {n : Nat} {ρs : Nat → Ro} {ρe : Ro} (ht : ∀ k, k ≤ n → EB f w A env (ρs k) test true) (hb : ∀ k, k < n → XS f w A env g mu (ρs k) body (nextP env g (ρs (k + 1)))) (hl : XS f w A env g mu (ρs n) body (fun fl h => fl = .brk ∧ FrS env g h ρe)) :
    X1 f w A env g mu (ρs 0) (.While test body [] pos) (nextP env g ρe) := fun s K F E => by
  refine wpAny_While (codeAny_whileLoop (fun m s' => ∃ k, k ≤ n ∧ m = n - k ∧ Kp f g s'.heap ∧ FrS env g s'.heap (ρs k) ∧ RO f (ownOf env ++ mu) s s') (fun m s₁ hI => ?_) n ⟨0, Nat.zero_le _, rfl, K, F, .refl _⟩)
  obtain ⟨k, hk, rfl, K₁, F₁, R₁⟩ := hI
  refine (ht k hk).run G K₁ F₁ fun s₂ K₂ F₂ k₂ => ?_
  rw [if_pos rfl]
  by_cases hlt : k < n
  · refine wpAny_mono (hb k hlt s₂ K₂ F₂ _) (fun fl s₃ q => ?_) fun _ _ e => e
    obtain ⟨⟨rfl, F₃⟩, K₃, R₃⟩ := q
    exact ⟨n - (k + 1), by omega, k + 1, hlt, rfl, K₃, F₃, (R₁.trans (.of k₂)).trans R₃⟩
  · have : k = n := by omega
    subst this
    refine wpAny_mono (hl s₂ K₂ F₂ _) (fun fl s₃ q => ?_) fun _ _ e => e
    obtain ⟨⟨rfl, F₃⟩, K₃, R₃⟩ := q
    exact ⟨⟨rfl, F₃⟩, K₃, (R₁.trans (.of k₂)).trans R₃⟩
theorem x_assert (G : Gd w g) (hh : A.handled = none) (h : EB f w A env ρ test true) : X1 f w A env g mu ρ (.Assert test none pos) (nextP env g ρ) := fun s K F E =>
  wpAny_Assert_new hh (h.run G K F fun s' K' F' k' => ⟨⟨rfl, F'⟩, K', .of k'⟩)

theorem FrS.adv {h h' : Heap} {wr : List Addr} (F : FrS env g h ρ) (S : St wr h h') (hd : ∀ b ∈ wr, b ∉ ownOf env) (ho : Offs wr ρ) : FrS env g h' ρ :=
  F.frame (fun b hb o e => S.keep b o (fun q => hd b q hb) e) (fun y sp e => let ⟨v, a, p⟩ := F.vars y sp e; ⟨v, a, sp.off _ _ _ _ (ho y sp e) S p⟩) F.offs

/-- the loop itself, its iterator made -/
theorem for_core (G : Gd w g) {I : Addr} {fp wr : List Addr} {PP : Nat → Value → Prop} {SS : Nat → Heap → Prop} {s : Shared} {ρs : Nat → Ro} {R' : Result → Shared → Prop}
    (W : Walks prg w A I fp wr ps.length PP SS) (st : SS 0 s.heap) (K : Kp f g s.heap) (F : FrS env g s.heap (ρs 0))
    (soft : ∀ k h, SS k h → ∀ b ∈ wr, ∃ o, h.get? b = some o ∧ frameish o) (hfp : ∀ b ∈ fp, b ∉ ownOf env ++ mu) (nt : ∀ b ∈ fp, b ≠ 116 ∧ b ≠ 83) (new : ∀ b ∈ wr, g.get? b = none) (hbs : ∀ i, Offs wr (ρs i))
    (hit : ∀ (i : Nat) v s', i < ps.length → RO f (ownOf env ++ mu ++ wr) s s' → PP i v → ∃ p, ps[i]? = some p ∧ Rp s'.heap v p)
    (hk : env.scope.kind = .function) (hx : env.kindOf x = some .local ∨ (env.kindOf x = some .cell ∧ (env.cells.lookup x).isSome = true))
    (hb : ∀ i p, ps[i]? = some p → XS f w A env g mu ((x, R p) :: ρs i) body (nextP env g (ρs (i + 1))))
    (hR : ∀ s', Kp f g s'.heap → FrS env g s'.heap (ρs ps.length) → RO f (ownOf env ++ mu ++ wr) s s' → R' (.ok .next) s') : codeAny (model prg w) A (.forLoop (.Name x px) (.ref I) body [] env) R' s := by
  have wf : ∀ b ∈ wr, b ∈ fp := W.sub
  have hd : ∀ b ∈ wr, b ∉ ownOf env := fun b hb q => hfp b (wf b hb) (List.mem_append_left _ q)
  refine codeAny_forLoop_any (fun m s' => ∃ k, k ≤ ps.length ∧ m = ps.length + 1 - k ∧ SS k s'.heap ∧ Kp f g s'.heap ∧ FrS env g s'.heap (ρs k) ∧ RO f (ownOf env ++ mu ++ wr) s s') ?_ (ps.length + 1) ⟨0, Nat.zero_le _, rfl, st, K, F, .refl _⟩
  rintro m s₁ ⟨k, hk', rfl, st₁, K₁, F₁, R₁⟩
  have adv : ∀ h' tk, (∀ b o, b ∉ wr → s₁.heap.get? b = some o → h'.get? b = some o) → Kp f g h' ∧ FrS env g h' (ρs k) ∧ RO f (ownOf env ++ mu ++ wr) s { s₁ with heap := h', toks := tk } := fun h' tk kp => by
    have S : St wr s₁.heap h' := ⟨soft k _ st₁, kp⟩
    exact ⟨K₁.st S new, F₁.adv S hd (hbs k), R₁.trans ⟨.of, fun b o n1 _ _ e => kp b o (fun q => n1 (List.mem_append_right _ q)) e⟩⟩
  by_cases hlt : k < ps.length
  · refine W.item k s₁ _ _ hlt st₁ fun v h' tk hP st₂ kp => ?_
    obtain ⟨K₂, F₂, R₂⟩ := adv h' tk kp
    obtain ⟨p, hp, rp⟩ := hit k v _ hlt R₂ hP
    refine wpAny_pure ?_
    refine wpAny_assign_Name (store_ (P := R p) F₂ K₂ rp off_R hk hx fun s₃ K₃ F₃ R₃ _ => ?_)
    refine wpAny_mono (hb k p hp s₃ K₃ F₃ _) (fun fl s₄ q => ?_) fun _ _ e => e
    obtain ⟨⟨rfl, F₄⟩, K₄, R₄⟩ := q
    have R34 : RO f (ownOf env ++ mu) { s₁ with heap := h', toks := tk } s₄ := R₃.left.trans R₄
    refine ⟨ps.length + 1 - (k + 1), by omega, k + 1, hlt, rfl, ?_, K₄, F₄, R₂.trans R34.left⟩
    exact W.frame _ _ _ st₂ fun b hb o e => R34.keep b o (hfp b hb) (nt b hb).1 (fun _ => (nt b hb).2) e
  · have : k = ps.length := by omega
    subst this
    refine W.done s₁ _ _ st₁ fun h' tk kp => ?_
    obtain ⟨K₂, F₂, R₂⟩ := adv h' tk kp
    exact wpAny_execs_nil (hR _ K₂ F₂ R₂)
/-- what the entries lean on stands before the loop -/
def Bas (ρ0 ρ : Ro) : Prop := ∀ x sp, ρ.lookup x = some sp → sp.base = [] ∨ ∃ y, ρ0.lookup y = some sp
theorem bas_nil {ρ0 : Ro} : Bas ρ0 [] := fun _ _ e => by cases e
theorem bas_cons {ρ0 ρ : Ro} {x : Str} {P : SP} (b : Bas ρ0 ρ) (a : P.base = [] ∨ ∃ y, ρ0.lookup y = some P) : Bas ρ0 ((x, P) :: ρ) := fun y Q e => by
  rw [List.lookup_cons] at e
  cases h : y == x with
  | true => rw [h] at e; cases e; exact a
  | false => rw [h] at e; exact b y Q e
/-- for x in range(..): body -/
theorem x_for (G : Gd w g) (hi : EV f w A env ρ iter P1) (hit : IterR f w A P1 ps) (hmu : ∀ b ∈ mu, ∃ y qs, ρ.lookup y = some (At b qs)) {ρs : Nat → Ro} (h0 : Sub ρ (ρs 0))
    (hat : ∀ p ∈ ps, ∀ l, p ≠ .list l) (hbs : ∀ i, Bas ρ (ρs i))
    (hx : env.kindOf x = some .local ∨ (env.kindOf x = some .cell ∧ (env.cells.lookup x).isSome = true))
    (hb : ∀ i p, ps[i]? = some p → XS f w A env g mu ((x, R p) :: ρs i) body (nextP env g (ρs (i + 1))))
    (hk : env.scope.kind = .function := by rfl) (hs : ∀ y, foldedSetIterable iter env y = pure y := by intro _; rfl) : X1 f w A env g mu ρ (.For (.Name x px) iter body [] pos) (nextP env g (ρs ps.length)) := fun s K F E => by
  refine wpAny_For (hi.run G K F fun v s₁ hv K₁ F₁ k₁ => ?_) hs
  have G₁ := G.kp K₁
  refine hit s₁ v G₁ hv _ _ fun s₂ I PP SS S hI k₂ => ?_
  have K₂ := K₁.trans k₂.kp
  have F₂ := F₁.kp k₂.kp G₁.tb
  have hfp : ∀ b ∈ [I], b ∉ ownOf env ++ mu := fun b hb q => by
    rw [List.mem_singleton.mp hb] at q
    rcases List.mem_append.mp q with z | z
    · obtain ⟨o, e, _⟩ := F₁.fr _ z
      rw [hI] at e; cases e
    · obtain ⟨y, qs, e⟩ := hmu _ z
      obtain ⟨u, _, _, r⟩ := F₁.vars y _ e
      cases r with
      | list z l r => obtain ⟨n, e⟩ := l; rw [hI] at e; cases e
  have hnew : ∀ b ∈ [I], g.get? b = none := fun b hb => by
    rw [List.mem_singleton.mp hb]
    cases q : g.get? I with
    | none => rfl
    | some o =>
      have nt := S.nt I (by simp)
      have := K₁.keep I o nt.1 (fun _ => nt.2) q
      rw [hI] at this; cases this
  refine for_core (mu := mu) (ρs := ρs) G S.W S.st K₂ (F₂.sub h0) S.soft hfp S.nt hnew (fun i x sp e b hb hq => ?_) (fun i v s' hlt R hP => ?_) hk hx hb fun s' K' F' R' => ?_
  · rw [List.mem_singleton.mp hb] at hq
    rcases hbs i x sp e with z | ⟨y, z⟩
    · rw [z] at hq; cases hq
    · obtain ⟨u, _, hu⟩ := F₁.vars y sp z
      obtain ⟨o, e'⟩ := sp.inb _ _ hu I hq
      rw [hI] at e'; cases e'
  · obtain ⟨p, hp, rp⟩ := S.it i v s₁.heap hlt (fun _ _ _ r => r) hP
    refine ⟨p, hp, ?_⟩
    have hm := List.mem_of_getElem? hp
    cases rp with
    | list => exact absurd rfl (hat _ hm _)
    | none => exact .none
    | bool b => exact .bool b
    | int i t => exact .int i t
    | str x t => exact .str x t
    | obj a h => exact .obj a h
    | bi i => exact .bi i
    | ty i => exact .ty i
  · refine ⟨⟨rfl, F'⟩, K', ?_⟩
    refine (((RO.of k₁).trans (.of k₂)).trans (R'.sub fun b hb => .inl hb)).sub fun b hb => ?_
    rcases List.mem_append.mp hb with z | z
    · exact .inl z
    · rw [List.mem_singleton.mp z]
      refine .inr ?_
      cases q : s.heap.get? I with
      | none => rfl
      | some o =>
        have nt := S.nt I (by simp)
        have := k₁.kp.keep I o nt.1 (fun _ => nt.2) q
        rw [hI] at this; cases this
end
end Mine

/- C5 -/
open PySem PySem.Spec PySem.Calls PySem.W PyProof.Rows
set_option maxRecDepth 100000
namespace Mine
section
variable {f : Bool} {w : World} {A : Around} {env : Env} {g : Heap} {mu : List Addr} {ρ ρ' : Ro} {e e1 e2 : PySem.Expr} {P P1 P2 : SP} {pos p1 p2 p3 tpos : Pos} {x y : Str} {k k2 : Nat} {D : Addr} {ps : List PV} {s : Shared} {a b : Value}

/-- x, y = (e1, e2) -/
theorem x_set2 (G : Gd w g) (hh : A.handled = none) (h1 : EV f w A env ρ e1 P1) (h2 : EV f w A env ρ e2 P2) (hx : env.kindOf x = some .local) (hy : env.kindOf y = some .local) (o1 : P1.base = [] := by rfl) (o2 : P2.base = [] := by rfl) (hk : env.scope.kind = .function := by rfl)
    (hst : starEach [e1, e2] env = (false, eval e1 env) :: starEach [e2] env := by rfl) (hst2 : starEach [e2] env = (false, eval e2 env) :: starEach [] env := by rfl)
    (hs : swapsWithSole [.Tuple [.Name x p1, .Name y p2] k tpos] (.Tuple [e1, e2] k2 p3) pos.line env = pure false := by rfl)
    (hw : swappedStores [.Tuple [.Name x p1, .Name y p2] k tpos] (.Tuple [e1, e2] k2 p3) env = pure (some [x, y]) := by rfl) :
    X1 f w A env g mu ρ (.Assign [.Tuple [.Name x p1, .Name y p2] k tpos] (.Tuple [e1, e2] k2 p3) pos) (nextP env g ((x, P1) :: (y, P2) :: ρ)) := fun s K F E => by
  refine Assign_Tuple_swapped ?_ hs hw
  refine Tuple_ ?_
  have hv : EVs f w A env ρ [e1, e2] [P1, P2] := evs_cons h1 (evs_cons h2 evs_nil hst2) hst
  refine wpAny_mono (hv s p3 (G.kp K) F.vars E) (fun vs s₁ h₁ => ?_) fun _ _ e => e
  obtain ⟨hvs, k₁⟩ := h₁
  obtain ⟨a, b, rfl, ha, hb⟩ := sp2 hvs
  refine wpAny_newTuple ?_ (show 2 ≤ sizeLine by rw [sizeLine_eq]; decide)
  refine unpackItems_tuple (items := #[a, b]) (t := s₁.heap.objs.size) hh ⟨_, Heap.get?_push_size _ rfl, rfl, _, rfl⟩ fun h' he => ?_
  have K₁ := K.trans k₁.kp
  have G₁ := G.kp K₁
  have F₁ := F.kp k₁.kp (G.kp K).tb
  have k₂ : Kps f s₁ { s₁ with heap := h' } := .of_keeps (tk := s₁.toks) fun c o e => he c o (fun q => by
    have := Heap.lt_size e
    rw [q, Heap.size_push] at this
    exact absurd this (Nat.not_lt.mpr (Nat.le_succ _))) (Heap.get?_push_of_some _ e)
  have K₂ := K₁.trans k₂.kp
  have F₂ := F₁.kp k₂.kp G₁.tb
  show wpAny _ _ (do holding [a] (bindName env y b); assignInOrder [bindName env x] [a]) _ _ _
  refine wpAny_bind (wpAny_holding (bindName_ (store_ (P := P2) F₂ K₂ (P2.mono G₁.tb k₂.kp.up hb) (off_any o2) hk (.inl hy) fun s₃ K₃ F₃ R₃ S₃ => ?_)))
  show wpAny _ _ (do holding [] (bindName env x a); assignInOrder [] []) _ _ _
  refine wpAny_bind (wpAny_holding (bindName_ (store_ (P := P1) F₃ K₃ ?_ (off_any o1) hk (.inl hx) fun s₄ K₄ F₄ R₄ _ => ?_)))
  · exact P1.off _ _ _ _ (off_any o1) S₃ (P1.mono G₁.tb k₂.kp.up ha)
  · exact wpAny_pure ⟨⟨rfl, F₄⟩, K₄, (((RO.of k₁).trans (.of k₂)).trans R₃.left).trans R₄.left⟩

theorem ev_bound {value : PySem.Expr} (h : EV f w A env ρ value (At D ps)) (hb : attributeBase value "append" env (eval value env) = eval value env := by rfl) : EV f w A env ρ (.Attribute value "append" pos) (Bd D) := fun s G F E => by
  refine attr_append (f := f) (wpAny_mono (h s G F E) (fun v s' hv => ?_) fun _ _ e => e) hb
  obtain ⟨⟨rfl, r⟩, k⟩ := hv
  cases r with
  | list z l r =>
    obtain ⟨n, e⟩ := l
    refine ⟨D, _, n, rfl, e, fun tk => ⟨⟨_, rfl, Heap.get?_push_size _ rfl⟩, k.trans (.of_keeps fun _ _ e => Heap.get?_push_of_some _ e)⟩⟩
theorem At.r {h : Heap} {v : Value} (x : (At D ps).P h v) : Rp h v (.list ps) := by
  obtain ⟨rfl, r⟩ := x; exact r
/-- as a plain list -/
theorem ev_at (h : EV f w A env ρ e (At D ps)) : EV f w A env ρ e (R (.list ps)) := fun s G F => (h s G F).mono fun v s' _ r => At.r r
theorem op_item_neg {value slice : PySem.Expr} {k : Int} {p : PV} (ha : Rp s.heap a (.list ps)) (hb : Rp s.heap b (.int k)) (h0 : k < 0) (h1 : -(ps.length : Int) ≤ k) (h2 : -1000000 ≤ k) (hp : ps[(k + ps.length).toNat]? = some p) (hs : ∀ o i, subscripted slice false o i = operate [o, i] (getItem o i) := by intro _ _; rfl) : Ev f w A (subscriptTail value slice a b) (R p).P s := fun E => by
  cases hb
  cases ha with
  | list z l r =>
    have q := r.length
    obtain ⟨v, e, rv⟩ := r.get hp
    refine tail_any l.isList.typeIs slot_list_getitem.lookup (wpAny_getItem_list_neg l.isList h0 (by simp only [List.size_toArray]; omega) (by omega) ?_ ⟨rv, .refl _⟩) (hs _ _)
    simp only [List.size_toArray, List.getElem?_toArray]
    rw [q]; exact e
end
theorem x_sub {env : Env} {f : Bool} {w : World} {A : Around} {g : Heap} {mu : List Addr} {ρ ρ0 : Ro} {st : Stmt} {Q : Post} (h : Sub ρ ρ0) (hx : X1 f w A env g mu ρ0 st Q) : X1 f w A env g mu ρ st Q := fun s K F E => hx s K (F.sub h) E
theorem chr_beq (c d : Nat) : ((⟨#[c]⟩ : Str) == ⟨#[d]⟩) = (c == d) := by
  rw [Bool.eq_iff_iff]; simp
def trStep (r : List (Option Str)) (c : Nat) : List (Option Str) := if c = 42 then (if r.isEmpty || (r.getLast?.getD none).isSome then r ++ [none] else r) else r ++ [some (escC c)]
def trN (x : Str) (k : Nat) : List (Option Str) := (x.cps.toList.take k).foldl trStep []
def trP (x : Str) : List (Option Str) := x.cps.toList.foldl trStep []
theorem trN_succ {x : Str} {k c : Nat} (h : x.cps[k]? = some c) : trN x (k + 1) = trStep (trN x k) c := by
  unfold trN
  rw [List.take_add_one]
  have : x.cps.toList[k]? = some c := by simpa using h
  rw [this]
  simp
theorem trStep_len (r : List (Option Str)) (c : Nat) : (trStep r c).length ≤ r.length + 1 := by
  unfold trStep
  split
  · split <;> simp
  · simp
theorem trN_len (x : Str) (k : Nat) : (trN x k).length ≤ k := by
  have : ∀ (l : List Nat) (r : List (Option Str)), (l.foldl trStep r).length ≤ r.length + l.length := by
    intro l
    induction l with
    | nil => intro r; simp
    | cons c l ih => intro r; have := ih (trStep r c); have := trStep_len r c; simp only [List.foldl_cons, List.length_cons]; omega
  have := this (x.cps.toList.take k) []
  simp only [List.length_nil, Nat.zero_add, List.length_take] at this
  exact Nat.le_trans this (Nat.min_le_left _ _)
def trChars : List Nat := [42, 46, 97, 98, 99, 108, 111, 55]
theorem not_occ_pO {ps : List PV} {o : Option Str} : ¬ Occ (.list ps) (pO o) := not_occ_atom fun l => by cases o <;> (intro q; cases q)

theorem translate_spec (f : Bool) (w : World) (x : Str) (hc : ∀ c ∈ x.cps.toList, c ∈ trChars) (hz : x.length ≤ 1000) : SpecOf f w 2 88 [.str x, .none, .str "?"] (.list ((trP x).map pO)) := by
  refine spec_def (fd := fdOf w.params 88) (body := bodyOf w.params 88) (names := ["pat", "STAR", "QUESTION_MARK"]) rfl rfl rfl ?_ rfl (by decide) (by rfl) ?_ (show ([] : List Str).Nodup from List.nodup_nil)
  · intro s vs hl G
    match vs, hl with
    | [v, u, t], _ => exact BindsTo.of_eq rfl
  · intro A L g hR G
    refine xs_newlist G (.inl rfl) fun D hD => ?_
    refine xs_one (x_set G (ev_bound (ps := []) (D := D) (ev_name rfl)) off_any (.inl rfl)) ?_
    refine xs_one (x_set2 G hR.1 (P1 := R (.int 0)) (P2 := R (.int x.length)) ev_cint (ev_callb (id := "len") (ev_blt (v := .builtin "len") (fun _ => rfl) (by rfl) (fun h => .bi _)) (evs_cons (P := R (.str x)) (ev_name rfl) evs_nil) (fun s vs G h => ?_)) rfl rfl) ?_
    · obtain ⟨a, rfl, ha⟩ := sp1 h
      exact op_len_str ha (by omega)
    let ρs : Nat → Ro := fun k => [("i", R (.int k)), ("res", At D ((trN x k).map pO)), ("add", Bd D), ("n", R (.int x.length)), ("pat", R (.str x)), ("STAR", R .none)]
    refine xs_one (ρ' := ρs x.length) (x_sub (ρ0 := ρs 0) (sub_cons (sub_cons (sub_cons (sub_cons (sub_cons (sub_cons sub_nil)))))) (x_while G (fun k hk => ?_) (fun k hk => ?_))) ?_
    · refine EB.cast (eb_cmp (P1 := R (.int k)) (P2 := R (.int x.length)) (ev_name rfl) (ev_name rfl) (fun s a c _ ha hc => op_lt_int ha hc)) ?_
      rw [decide_eq_decide]; omega
    · have hk' : k < x.cps.size := hk
      obtain ⟨c, ec⟩ : ∃ c, x.cps[k]? = some c := ⟨x.cps[k], by simp [hk']⟩
      have hcm : c ∈ trChars := hc c (by rw [← Array.getElem?_toList] at ec; exact List.mem_of_getElem? ec)
      have hidx : (seqIndex? (k : Int) x.length).bind (x.cps[·]?) = some c := by
        unfold seqIndex?
        have h1 : ¬ ((k : Int) < 0) := by omega
        have h2 : (k : Int) < x.length := by omega
        simp [h1, h2, ec]
      have hlen := trN_len x k
      refine xs_one (x_set (P := R (.str ⟨#[c]⟩)) G (ev_sub (P1 := R (.str x)) (P2 := R (.int k)) (ev_name rfl) (ev_name rfl) (fun s a b _ ha hb => op_item_str ha hb (by omega) (by omega) hidx)) off_any (.inl rfl)) ?_
      refine xs_one (x_set (P := R (.int ((k + 1 : Nat) : Int))) G (EV.cast (ev_bin (P1 := R (.int k)) (P2 := R (.int 1)) (P := R (.int (k + 1))) (ev_name rfl) ev_cint (fun s a b _ ha hb => op_add_int ha hb)) (by congr 1)) off_any (.inl rfl)) ?_
      have keep : ∀ {ps : List PV} {ρ : Ro}, True := trivial
      by_cases h42 : c = 42
      · subst h42
        refine xs_one (ρ' := ρs (k + 1)) (x_if (b := true) G (EB.cast (eb_cmp (P1 := R (.str ⟨#[42]⟩)) (P2 := R (.str "*")) (ev_name rfl) ev_cstr (fun s a c _ ha hc => op_eq_str ha hc)) (by decide)) (fun _ => ?_) (fun q => by cases q)) (xs_nil fun h F => ⟨rfl, F⟩)
        refine xs_one (ρ' := ρs (k + 1)) (x_if (b := (trN x k).isEmpty || ((trN x k).getLast?.getD none).isSome) G ?_ (fun hcond => ?_) (fun hcond => ?_)) (xs_nil fun h F => ⟨rfl, F⟩)
        · refine EB.cast (eb_or2 (b := ((trN x k).getLast?.getD none).isSome) (eb_not (eb_val (P := At D ((trN x k).map pO)) (ev_name rfl) (fun s v G r => tr_list (At.r r) (by rw [List.length_map]; omega)))) (fun hne => ?_)) (by simp)
          have hne' : trN x k ≠ [] := by simpa using hne
          have hlast : (trN x k).getLast? = some ((trN x k).getLast hne') := List.getLast?_eq_some_getLast hne'
          have hpos : 0 < (trN x k).length := List.length_pos_iff.mpr hne'
          refine eb_cmp (P1 := R (pO ((trN x k).getLast?.getD none))) (P2 := R .none) (ev_sub (P1 := At D ((trN x k).map pO)) (P2 := R (.int (-1))) (ev_name rfl) (ev_neg ev_cint) (fun s a b _ ha hb => op_item_neg (At.r ha) hb (by decide) (by rw [List.length_map]; omega) (by decide) ?_)) (ev_name rfl) (fun s a c _ ha hc => op_isnot_none ha hc)
          rw [hlast, List.length_map]
          have : ((-1 : Int) + ((trN x k).length : Int)).toNat = (trN x k).length - 1 := by omega
          rw [this, List.getElem?_map, ← List.getLast?_eq_getElem?, hlast]
          rfl
        · have estep : (trN x (k + 1)).map pO = (trN x k).map pO ++ [.none] := by
            rw [trN_succ ec]; unfold trStep; rw [if_pos rfl, if_pos hcond]; simp [pO]
          refine xs_one (x_add (x := "res") (ρ' := [("i", R (.int ((k + 1 : Nat) : Int))), ("add", Bd D), ("n", R (.int x.length)), ("pat", R (.str x)), ("STAR", R .none)]) G hD (.head _) (ev_name rfl) (ev_name (P := R .none) rfl) rfl (not_occ_atom fun l q => by cases q) (by rw [List.length_map]; omega)
            (keep1_cons (off1_atom fun l q => by cases q) (keep1_cons off1_Bd (keep1_cons (off1_atom fun l q => by cases q) (keep1_cons (off1_atom fun l q => by cases q) (keep1_cons (off1_atom fun l q => by cases q) keep1_nil)))))) ?_
          refine xs_sub (sub_cons (sub_cons ?_ (by rw [estep]; rfl)))
          exact sub_cons (sub_cons (sub_cons (sub_cons sub_nil)))
        · have estep : (trN x (k + 1)).map pO = (trN x k).map pO := by
            rw [trN_succ ec]; unfold trStep; rw [if_pos rfl, if_neg (by rw [hcond]; exact Bool.false_ne_true)]
          refine xs_sub (sub_cons (sub_cons ?_ (by rw [estep]; rfl)))
          exact sub_cons (sub_cons (sub_cons (sub_cons sub_nil)))
      · have estep : (trN x (k + 1)).map pO = (trN x k).map pO ++ [.str (escC c)] := by
          rw [trN_succ ec]; unfold trStep; rw [if_neg h42]; simp [pO]
        have hc' : c ∈ [46, 97, 98, 99, 108, 111, 55] := by
          rcases List.mem_cons.mp hcm with q | q
          · exact absurd q h42
          · exact q
        have h63 : (c == 63) = false := by revert hc'; simp; omega
        have h91 : (c == 91) = false := by revert hc'; simp; omega
        have h42' : (c == 42) = false := by simpa using h42
        refine xs_one (ρ' := ρs (k + 1)) (x_if (b := false) G (EB.cast (eb_cmp (P1 := R (.str ⟨#[c]⟩)) (P2 := R (.str "*")) (ev_name rfl) ev_cstr (fun s a c _ ha hc => op_eq_str ha hc)) ((chr_beq c 42).trans h42')) (fun q => by cases q) (fun _ => ?_)) (xs_nil fun h F => ⟨rfl, F⟩)
        refine xs_one (ρ' := ρs (k + 1)) (x_if (b := false) G (EB.cast (eb_cmp (P1 := R (.str ⟨#[c]⟩)) (P2 := R (.str "?")) (ev_name rfl) ev_cstr (fun s a c _ ha hc => op_eq_str ha hc)) ((chr_beq c 63).trans h63)) (fun q => by cases q) (fun _ => ?_)) (xs_nil fun h F => ⟨rfl, F⟩)
        refine xs_one (ρ' := ρs (k + 1)) (x_if (b := false) G (EB.cast (eb_cmp (P1 := R (.str ⟨#[c]⟩)) (P2 := R (.str "[")) (ev_name rfl) ev_cstr (fun s a c _ ha hc => op_eq_str ha hc)) ((chr_beq c 91).trans h91)) (fun q => by cases q) (fun _ => ?_)) (xs_nil fun h F => ⟨rfl, F⟩)
        refine xs_one (x_add (x := "res") (p := .str (escC c)) (ρ' := [("i", R (.int ((k + 1 : Nat) : Int))), ("add", Bd D), ("n", R (.int x.length)), ("pat", R (.str x)), ("STAR", R .none)]) G hD (.head _) (ev_name rfl)
          (ev_call (n := 1) hR (ev_glob (v := .ref 81) (p := .obj 81) (fun _ => rfl) (fun h => .obj 81 (by decide))) (fun _ => rfl) (evs_cons (P := R (.str ⟨#[c]⟩)) (ev_name rfl) evs_nil) (escape_spec f w c hc')) rfl (not_occ_atom fun l q => by cases q) (by rw [List.length_map]; omega)
          (keep1_cons (off1_atom fun l q => by cases q) (keep1_cons off1_Bd (keep1_cons (off1_atom fun l q => by cases q) (keep1_cons (off1_atom fun l q => by cases q) (keep1_cons (off1_atom fun l q => by cases q) keep1_nil)))))) ?_
        refine xs_sub (sub_cons (sub_cons ?_ (by rw [estep]; rfl)))
        exact sub_cons (sub_cons (sub_cons (sub_cons sub_nil)))
    · refine xs_one (x_assert G hR.1 (EB.cast (eb_cmp (P1 := R (.int x.length)) (P2 := R (.int x.length)) (ev_name rfl) (ev_name rfl) (fun s a c _ ha hc => op_eq_int ha hc)) (by simp))) ?_
      refine xs_last (x_ret G ?_)
      have e : trN x x.length = trP x := by
        unfold trN trP
        rw [List.take_of_length_le (by simp [Str.length])]
      rw [← e]
      exact ev_at (ev_name rfl)
end Mine

/- C6 -/
open PySem PySem.Spec PySem.Calls PySem.W PyProof.Rows
set_option maxRecDepth 100000
namespace Mine
abbrev iN (n : Nat) : PV := .int n
abbrev pN (l : List Nat) : PV := .list (l.map iN)
abbrev pL (rows : List (List Str)) : PV := .list (rows.map pS)
section
variable {f : Bool} {w : World} {A : Around} {env : Env} {g : Heap} {mu : List Addr} {ρ ρ' : Ro} {e e1 e2 : PySem.Expr} {P P1 P2 : SP} {pos : Pos}
/-- a call of a built-in type -/
theorem ev_callt {es : List PySem.Expr} {id : String} {Ps : List SP} {fe : PySem.Expr} {e0 : PySem.Expr} (hf : EV f w A env ρ fe (R (.ty id))) (h : EVs f w A env ρ (e0 :: es) Ps) (S : ∀ s vs, Gd w s.heap → SPs s.heap vs Ps → Ev f w A (call (.type id) vs) P.P s)
    (hc : ∀ k, eval (.Call fe (e0 :: es) k pos) env = (do callWith pos (← eval fe env) [] (backTo pos (starEach (e0 :: es) env)) (backToKw pos (keywordEach k env))) := by intro _; rfl)
    (he : starEach (e0 :: es) env = (false, eval e0 env) :: starEach es env := by rfl) (hplain : (backTo pos (starEach es env)).any (·.1) = false := by rfl) :
    EV f w A env ρ (.Call fe (e0 :: es) [] pos) P := fun s G F E => by
  rw [hc]
  refine wpAny_bind (wpAny_mono (hf s G F E) (fun v s₁ h₁ => ?_) fun _ _ e => e)
  have r : Rp s₁.heap v (.ty id) := h₁.1
  have G₁ := G.kp h₁.2.kp
  cases r
  refine Pv.callWith_type1 (wpAny_mono (h s₁ pos G₁ (F.kp h₁.2.kp G.tb) E) (fun vs s₂ h₂ => ?_) fun _ _ e => e) he hplain
  exact wpAny_mono (S s₂ vs (G₁.kp h₂.2.kp) h₂.1 E) (fun r s₃ h₃ => ⟨h₃.1, (h₁.2.trans h₂.2).trans h₃.2⟩) fun _ _ e => e
end
def stepP (pl : List Nat) (item : Option Str) (row : List (List Str)) : List Nat := match item with
  | some it => (pl.filter fun q => decide (q < row.length) && (row[q]?.getD []).any (· == it)).map (· + 1)
  | none => match pl with
    | [] => []
    | q :: _ => (List.range (row.length + 1 - q)).map (q + ·)
def bStep (it : Str) (row : List (List Str)) : PV → Bool
  | .int i => decide (i < row.length) && (row[i.toNat]?.getD []).any (· == it)
  | _ => false
def fStep : PV → PV
  | .int i => .int (i + 1)
  | p => p
theorem step_map (pl : List Nat) (it : Str) (row : List (List Str)) : ((pl.map iN).filter (bStep it row)).map fStep = (stepP pl (some it) row).map iN := by
  unfold stepP
  induction pl with
  | nil => rfl
  | cons q pl ih =>
    have e : bStep it row (iN q) = (decide (q < row.length) && (row[q]?.getD []).any (· == it)) := by
      unfold bStep iN
      simp
    simp only [List.map_cons, List.filter_cons]
    rw [e]
    cases (decide (q < row.length) && (row[q]?.getD []).any (· == it)) with
    | true => simp only [if_true, List.map_cons]; rw [ih]; rfl
    | false => simp only [Bool.false_eq_true, if_false]; exact ih
theorem step_spec (f : Bool) (w : World) (pl : List Nat) (item : Option Str) (row : List (List Str)) (hz : pl.length ≤ 1000) (hr : row.length ≤ 1000) (hp : ∀ q ∈ pl, q ≤ row.length) : SpecOf f w 1 114 [pN pl, pO item, pL row] (pN (stepP pl item row)) := by
  refine spec_def (fd := fdOf w.params 114) (body := bodyOf w.params 114) (names := ["places", "item", "row"]) rfl rfl rfl ?_ rfl (by decide) (by rfl) ?_ (show (["row", "item"] : List Str).Nodup by decide)
  · intro s vs hl G
    match vs, hl with
    | [v, u, t], _ => exact BindsTo.of_eq rfl
  · intro A L g hR G
    have len_row : ∀ {env ρ pos e}, EV f w A env ρ e (R (pL row)) → ∀ s vs, Gd w s.heap → SPs s.heap vs [R (pL row)] → Ev f w A (call (.builtin "len") vs) (R (.int row.length)).P s := fun _ s vs G h => by
      obtain ⟨a, rfl, ha⟩ := sp1 h
      have := op_len_list (f := f) (w := w) (A := A) ha (by rw [List.length_map]; omega)
      rw [List.length_map] at this
      exact this
    refine xs_ifret (b := item.isSome) G (eb_cmp (P1 := R (pO item)) (P2 := R .none) (ev_name rfl) ev_cnone (fun s a c _ ha hc => op_isnot_none ha hc)) (fun h => ?_) (fun h => ?_)
    · obtain ⟨it, rfl⟩ := Option.isSome_iff_exists.mp h
      refine xs_last (x_ret G ?_)
      refine EV.cast (ev_comp (P1 := R (pN pl)) (ps := pl.map iN) (b := bStep it row) (F := fStep) (ρ' := [("item", R (.str it)), ("row", R (pL row))]) hR.1 (ev_name rfl) (iter_list hR.1) (by rw [List.length_map]; omega) rfl
        (caps_cons (caps_cons caps_nil)) (fun C => .inl rfl) (fun C p hp s' G' F' => ?_) (fun C p hp hb => ?_) (fun i p hp hb => ?_)) (by rw [step_map])
      · obtain ⟨q, hq, rfl⟩ := List.mem_map.mp hp
        refine TestsOne (EB.cast (eb_and2 (b := (row[q]?.getD []).any (· == it)) (eb_cmp (P1 := R (iN q)) (P2 := R (.int row.length)) (ev_name rfl) (ev_callb (id := "len") (ev_blt (v := .builtin "len") (fun _ => rfl) (by rfl) (fun h => .bi _)) (evs_cons (P := R (pL row)) (ev_name rfl) evs_nil) (fun s vs G h => ?_)) (fun s a c _ ha hc => op_lt_int ha hc)) (fun hlt => ?_)) ?_ s' G' F')
        · obtain ⟨a, rfl, ha⟩ := sp1 h
          have := op_len_list (f := f) (w := w) (A := A) ha (by rw [List.length_map]; omega)
          rw [List.length_map] at this
          exact this
        · have hlt' : q < row.length := by
            have := of_decide_eq_true hlt
            omega
          refine eb_cmp (P1 := R (.str it)) (P2 := R (pS (row[q]?.getD []))) (ev_name rfl) (ev_sub (P1 := R (pL row)) (P2 := R (iN q)) (ev_name rfl) (ev_name rfl) (fun s a b _ ha hb => op_item_list ha hb (by omega) (by omega) ?_)) (fun s a c _ ha hc => op_in_strs ha hc)
          rw [Int.toNat_natCast, List.getElem?_map]
          simp [hlt']
        · unfold bStep iN; simp
      · obtain ⟨q, hq, rfl⟩ := List.mem_map.mp hp
        exact ev_bin (P1 := R (iN q)) (P2 := R (.int 1)) (ev_name rfl) ev_cint (fun s a b _ ha hb => op_add_int ha hb)
      · obtain ⟨q, hq, rfl⟩ := List.mem_map.mp hp
        exact not_occ_atom fun l z => by cases z
    · have hn : item = none := by cases item <;> simp_all
      subst hn
      have hu : A.units < cLine := by have := hR.2.2; omega
      refine xs_ifret (b := pl.isEmpty) G (EB.cast (eb_cmp (P1 := R (pN pl)) (P2 := R (.list [])) (ev_name rfl) (ev_list (ps := []) evs_nil (Nat.zero_le _)) (fun s a c _ ha hc => op_eq_nil hu ha hc)) (by simp)) (fun h2 => ?_) (fun h2 => ?_)
      · have : pl = [] := by simpa using h2
        subst this
        exact xs_last (x_ret G (ev_list (ps := []) evs_nil (Nat.zero_le _)))
      · obtain ⟨q, pl', rfl⟩ : ∃ q pl', pl = q :: pl' := by
          cases pl with
          | nil => simp at h2
          | cons q pl' => exact ⟨q, pl', rfl⟩
        have hq : q ≤ row.length := hp q (.head _)
        refine xs_last (x_ret G ?_)
        refine EV.cast (p := pI (upFrom (q : Int) (row.length + 1 - q))) (ev_callt (id := "list") (ev_blt (v := .type "list") (fun _ => rfl) (by rfl) (fun h => .ty _)) (evs_cons (P := RR (q : Int) (row.length + 1)) (ev_callt (id := "range") (ev_blt (v := .type "range") (fun _ => rfl) (by rfl) (fun h => .ty _)) (evs_cons (P := R (iN q)) (ev_sub (P1 := R (pN (q :: pl'))) (P2 := R (.int 0)) (ev_name rfl) ev_cint (fun s a b _ ha hb => op_item_list ha hb (by decide) (by decide) rfl)) (evs_cons (P := R (.int (row.length + 1))) (ev_bin (P1 := R (.int row.length)) (P2 := R (.int 1)) (ev_callb (id := "len") (ev_blt (v := .builtin "len") (fun _ => rfl) (by rfl) (fun h => .bi _)) (evs_cons (P := R (pL row)) (ev_name rfl) evs_nil) (fun s vs G h => ?_)) ev_cint (fun s a b _ ha hb => op_add_int ha hb)) evs_nil)) (fun s vs G h => ?_)) evs_nil) (fun s vs G h => ?_)) ?_
        · obtain ⟨a, rfl, ha⟩ := sp1 h
          have := op_len_list (f := f) (w := w) (A := A) ha (by rw [List.length_map]; omega)
          rw [List.length_map] at this
          exact this
        · obtain ⟨a, b, rfl, ha, hb⟩ := sp2 h
          exact op_range2 ha hb
        · obtain ⟨a, rfl, ha⟩ := sp1 h
          exact op_list_range G hR.1 ha (by omega) (by omega) (by omega) (by omega)
        · unfold stepP upFrom pI pN
          rw [List.map_map, List.map_map]
          congr 1
end Mine

/- C7 -/
open PySem PySem.Spec PySem.Calls PySem.W PyProof.Rows
set_option maxRecDepth 100000
namespace Mine
/-- just this value -/
def Va (u : Value) : SP := .mk0 (fun _ v => v = u) (fun _ _ e => e) (fun _ _ _ _ _ e => e)
def IsFn (h : Heap) (v : Value) : Prop := ∃ a o fd, v = .ref a ∧ h.get? a = some o ∧ o.data = .func fd
section
variable {f : Bool} {w : World} {A : Around} {env : Env} {g : Heap} {mu : List Addr} {ρ ρ' : Ro} {e e1 e2 : PySem.Expr} {P P1 P2 : SP} {pos : Pos}
theorem callWith_fn {M : Model} {A : Around} {E : Value → Shared → Prop} {s : Shared} {u : Value} {e : PySem.Expr} {rest : List PySem.Expr} {Q : Value → Shared → Prop} (h : wpAny M A (spliced (backTo pos (starEach (e :: rest) env))) (fun vs s₁ => IsFn s₁.heap u ∧ wpAny M A (call u vs) Q E s₁) E s)
    (he : starEach (e :: rest) env = (false, eval e env) :: starEach rest env := by rfl) (hplain : (backTo pos (starEach rest env)).any (·.1) = false := by rfl) :
    wpAny M A (callWith pos u [] (backTo pos (starEach (e :: rest) env)) []) Q E s := by
  rw [he] at h ⊢
  refine callWith_of (P := fun h => IsFn h u) (by show ((false || (backTo pos (starEach rest env)).any (·.1)) || false) = false; rw [hplain]; rfl) (fun h hP => ⟨.frame, .inl rfl, ?_⟩) (evalArgs_plain h)
  obtain ⟨a, o, fd, rfl, ho, hd⟩ := hP
  intro A' Q' E' s' k q
  unfold keeperOf
  refine wpAny_bind (wpAny_load (k _ _ ho) ?_)
  simp only [hd]
  exact wpAny_pure q
/-- a call of a function held in a variable -/
theorem ev_callf {es : List PySem.Expr} {Fn : SP} {Ps : List SP} {fe : PySem.Expr} {e0 : PySem.Expr} (hfn : ∀ h v, Fn.P h v → IsFn h v) (hf : EV f w A env ρ fe Fn) (h : EVs f w A env ρ (e0 :: es) Ps) (S : ∀ s v vs, Gd w s.heap → Fn.P s.heap v → SPs s.heap vs Ps → Ev f w A (call v vs) P.P s)
    (hc : ∀ k, eval (.Call fe (e0 :: es) k pos) env = (do callWith pos (← eval fe env) [] (backTo pos (starEach (e0 :: es) env)) (backToKw pos (keywordEach k env))) := by intro _; rfl)
    (he : starEach (e0 :: es) env = (false, eval e0 env) :: starEach es env := by rfl) (hplain : (backTo pos (starEach es env)).any (·.1) = false := by rfl) :
    EV f w A env ρ (.Call fe (e0 :: es) [] pos) P := fun s G F E => by
  rw [hc]
  refine wpAny_bind (wpAny_mono (hf s G F E) (fun v s₁ h₁ => ?_) fun _ _ e => e)
  have G₁ := G.kp h₁.2.kp
  refine callWith_fn (wpAny_mono (h s₁ pos G₁ (F.kp h₁.2.kp G.tb) E) (fun vs s₂ h₂ => ?_) fun _ _ e => e) he hplain
  have hv := Fn.mono G₁.tb h₂.2.kp.up h₁.1
  refine ⟨hfn _ _ hv, ?_⟩
  exact wpAny_mono (S s₂ v vs (G₁.kp h₂.2.kp) hv h₂.1 E) (fun r s₃ h₃ => ⟨h₃.1, (h₁.2.trans h₂.2).trans h₃.2⟩) fun _ _ e => e
/-- a built-in's call, its end as one likes -/
theorem run_callb {es : List PySem.Expr} {id : String} {Ps : List SP} {fe : PySem.Expr} {e0 : PySem.Expr} {s : Shared} {Q : Value → Shared → Prop} {E : Value → Shared → Prop} (G : Gd w s.heap) (F : FrV env s.heap ρ) (hf : EV f w A env ρ fe (R (.bi id))) (h : EVs f w A env ρ (e0 :: es) Ps)
    (S : ∀ s₁ vs, Gd w s₁.heap → SPs s₁.heap vs Ps → Kps f s s₁ → wpAny (model prg w) A (call (.builtin id) vs) Q E s₁)
    (hc : ∀ k, eval (.Call fe (e0 :: es) k pos) env = (do callWith pos (← eval fe env) [] (backTo pos (starEach (e0 :: es) env)) (backToKw pos (keywordEach k env))) := by intro _; rfl)
    (he : starEach (e0 :: es) env = (false, eval e0 env) :: starEach es env := by rfl) (hplain : (backTo pos (starEach es env)).any (·.1) = false := by rfl) :
    wpAny (model prg w) A (eval (.Call fe (e0 :: es) [] pos) env) Q E s := by
  rw [hc]
  refine wpAny_bind (wpAny_mono (hf s G F E) (fun v s₁ h₁ => ?_) fun _ _ e => e)
  have r : Rp s₁.heap v (.bi id) := h₁.1
  have G₁ := G.kp h₁.2.kp
  cases r
  refine callWith_method1 (wpAny_mono (h s₁ pos G₁ (F.kp h₁.2.kp G.tb) E) (fun vs s₂ h₂ => ?_) fun _ _ e => e) he hplain
  exact S s₂ vs (G₁.kp h₂.2.kp) h₂.1 (h₁.2.trans h₂.2)
theorem call_iter {s : Shared} {a : Addr} {ys : Array Value} {Q : Value → Shared → Prop} {E : Value → Shared → Prop} (hl : s.heap.IsList a ys) (h : Q (.ref s.heap.objs.size) { s with heap := s.heap.push { cls := .type "list_iterator", data := .fields #[.ref a, .int 0 0] } }) :
    wpAny (model prg w) A (call (.builtin "iter") [.ref a]) Q E s := by
  refine call_function_entry (by decide +kernel) (by decide +kernel) kdk_entry_iter (kdk_args_iter _) ?_
  unfold Builtin.«iter»
  refine wpAny_bind (m := someArgs "iter" 1 2 _) (wpAny_of_eq (a := [Value.ref a]) (by first | rfl | kernel_rfl) ?_)
  show wpAny _ _ (pyIter (.ref a) >>= _) _ _ _
  refine wpAny_bind (wpAny_pyIter_list hl ?_)
  exact wpAny_pure ⟨_, rfl, h⟩
theorem op_is_other {s : Shared} {a b : Value} {l : List PV} {n : Addr} (G : Gd w s.heap) (ha : Rp s.heap a (.list l)) (hb : Rp s.heap b (.obj n)) (hn : ∃ o, (KK w.params).lookup n = some o) : Ev f w A (compareOp .Is a b) (R (.bool false)).P s := fun E => by
  cases hb with
  | obj _ hn' =>
    cases ha with
    | list z l r =>
      obtain ⟨m, e⟩ := l
      obtain ⟨o, eo⟩ := hn
      exact wpAny_is_ref_other (fun q => by subst q; exact absurd hn' (Nat.not_lt.mpr z)) e (G.K _ _ eo) (fun q => absurd (Value.type.inj q) (by decide)) ⟨.bool false, .refl _⟩
end
theorem reduce_spec (f : Bool) (w : World) {n : Nat} {Fn : SP} {ps : List PV} {acc : Nat → PV} {l0 : List PV} (hfn : ∀ h v, Fn.P h v → IsFn h v) (hz : ps.length ≤ 1000000) (h0 : acc 0 = .list l0)
    (hf : ∀ i p, ps[i]? = some p → ∀ A s v a b, Room n A → Gd w s.heap → Fn.P s.heap v → Rp s.heap a (acc i) → Rp s.heap b p → Ev f w A (call v [a, b]) (R (acc (i + 1))).P s) :
    SpecOfS f w (n + 1) 97 [Fn, R (.list ps), R (acc 0)] (R (acc ps.length)) := by
  refine spec_defS (fd := fdOf w.params 97) (body := bodyOf w.params 97) (names := ["function", "sequence", "initial"]) rfl rfl rfl ?_ rfl (by decide) (by rfl) ?_ (show ([] : List Str).Nodup from List.nodup_nil)
  · intro s vs hl G
    match vs, hl with
    | [v, u, t], _ => exact BindsTo.of_defaults (T := 90) rfl (G.K _ _ rfl) rfl rfl rfl
  · intro A L g hR G s K F E
    refine wpAny_execs_cons (wpAny_Assign_Name ?_ rfl)
    refine run_callb (f := f) (G.kp K) F.vars (ev_blt (v := .builtin "iter") (fun _ => rfl) (by rfl) (fun h => .bi _)) (evs_cons (P := R (.list ps)) (ev_name rfl) evs_nil) fun s₁ vs G₁ hvs k₁ => ?_
    obtain ⟨a, rfl, ha⟩ := sp1 hvs
    have K₁ := K.trans k₁.kp
    have F₁ := F.kp k₁.kp (G.kp K).tb
    have ha : Rp s₁.heap a (.list ps) := ha
    cases ha with
    | list z l r =>
      rename_i D ys
      refine call_iter l.isList ?_
      have hI : s₁.heap.get? s₁.heap.objs.size = none := get_none_of_le (Nat.le_refl _)
      have hIn := new_of K₁ G.tb (Nat.le_refl s₁.heap.objs.size)
      have lI : (s₁.heap.push { cls := .type "list_iterator", data := .fields #[.ref D, .int 0 0] }).get? s₁.heap.objs.size = some { cls := .type "list_iterator", data := .fields #[.ref D, .int 0 0] } := Heap.get?_push_size _ rfl
      generalize hIeq : s₁.heap.objs.size = I at *
      generalize hHeq : s₁.heap.push { cls := .type "list_iterator", data := .fields #[.ref D, .int 0 0] } = H2 at *
      have kp12 : ∀ b o, s₁.heap.get? b = some o → H2.get? b = some o := fun b o e => hHeq ▸ Heap.get?_push_of_some _ e
      have k₂ : Kps f s₁ { s₁ with heap := H2 } := .of_keeps (tk := s₁.toks) kp12
      have K₂ := K₁.trans k₂.kp
      have F₂ := F₁.kp k₂.kp G₁.tb
      have hh := hR.1
      refine store_ (P := Va (.ref I)) F₂ K₂ rfl off_any rfl (.inl rfl) fun s₃ K₃ F₃ R₃ _ => ?_
      refine wpAny_execs_cons (wpAny_mono (Q := fun fl s' => nextP (callEnvC (fdOf w.params 97) L 97) g [("value", R (acc 0)), ("it", Va (.ref I)), ("function", Fn)] fl s'.heap ∧ Kp f g s'.heap ∧ RO f (ownOf (callEnvC (fdOf w.params 97) L 97) ++ []) s₃ s') ?_ (fun fl s₄ q => ?_) fun _ _ e => e)
      · refine x_if (b := false) (Q := nextP (callEnvC (fdOf w.params 97) L 97) g [("value", R (acc 0)), ("it", Va (.ref I)), ("function", Fn)]) G (eb_cmp (P1 := R (acc 0)) (P2 := R (.obj 89)) (ev_name rfl) (ev_glob (v := .ref 89) (p := .obj 89) (fun _ => rfl) (fun h => .obj 89 (by decide))) (fun s a c G ha hc => ?_)) (fun q => by cases q) (fun _ => xs_one (x_set G (ev_name (P := R (acc 0)) rfl) off_any (.inl rfl)) (xs_sub (sub_cons (sub_cons (sub_cons sub_nil))))) s₃ K₃ F₃ E
        rw [h0] at ha
        exact op_is_other G ha hc ⟨_, rfl⟩
      obtain ⟨⟨rfl, F₄⟩, K₄, R₄⟩ := q
      refine wpAny_execs_cons (wpAny_For ((ev_name (f := f) (w := w) (A := A) (P := Va (.ref I)) rfl).run G K₄ F₄ fun v s₅ hv K₅ F₅ k₅ => ?_) (by intro _; rfl))
      have hv : v = .ref I := hv
      subst hv
      have own1 : ∀ b ∈ ownOf (callEnvC (fdOf w.params 97) L 97), ∃ o, s₁.heap.get? b = some o ∧ frameish o := F₁.fr
      have kp25 : ∀ b o, b ∉ ownOf (callEnvC (fdOf w.params 97) L 97) → b ≠ 116 → b ≠ 83 → H2.get? b = some o → s₅.heap.get? b = some o := fun b o n1 n2 n3 e =>
        k₅.kp.keep b o n2 (fun _ => n3) (R₄.keep b o (by simpa using n1) n2 (fun _ => n3) (R₃.keep b o n1 n2 (fun _ => n3) e))
      have IO : I ∉ ownOf (callEnvC (fdOf w.params 97) L 97) := fun q => by
        obtain ⟨o, e, _⟩ := own1 _ q
        rw [hI] at e; cases e
      have DO := frame_ne F₁ l
      have Dt : D ≠ 116 ∧ D ≠ 83 := by
        obtain ⟨m, e⟩ := l
        have t := G₁.tb
        refine ⟨fun q => ?_, fun q => ?_⟩
        · subst q
          rcases t.1 with y | ⟨c', y, _⟩ <;> (rw [e] at y; cases y)
        · subst q
          obtain ⟨ps, y⟩ := t.2
          rw [e] at y; cases y
      have hne : D ≠ I := fun q => by
        obtain ⟨m, e⟩ := l
        rw [q, hI] at e; cases e
      have it5 : s₅.heap.IsListIter I D 0 := ⟨_, kp25 _ _ IO hIn.2.1 hIn.2.2 lI, rfl, rfl⟩
      have l5 : s₅.heap.PlainList D ys.toArray := let ⟨m, e⟩ := l; ⟨m, kp25 _ _ DO Dt.1 Dt.2 (kp12 _ _ e)⟩
      refine wpAny_pyIter_listiter it5 ?_
      have hlen : ys.toArray.size = ps.length := by rw [List.size_toArray, r.length]
      refine for_core (f := f) (g := g) (mu := []) (ρs := fun i => [("value", R (acc i)), ("function", Fn)]) (ps := ps) G (hlen ▸ Walks.list hh I D hne ys.toArray) ⟨it5, l5.isList⟩ K₅ (F₅.sub (sub_cons (sub_cons sub_nil))) ?_ ?_ ?_ ?_ (fun i => offs_cons off_any (offs_cons ?_ offs_nil)) ?_ rfl (.inl rfl) (fun i p hp => ?_) fun s' K' F' R' => ?_
      · intro k h st b hb
        rw [List.mem_singleton.mp hb]
        obtain ⟨o, e, hc, hd⟩ := st.1
        refine ⟨o, e, .inr (.inr ⟨⟨_, by decide, hc⟩, fun vs q q' t => ?_⟩)⟩
        rw [hd] at q; cases q
        intro z; cases z
      · intro b hb
        simp only [List.mem_cons, List.not_mem_nil, or_false] at hb
        rcases hb with rfl | rfl
        · simpa using IO
        · simpa using DO
      · intro b hb
        simp only [List.mem_cons, List.not_mem_nil, or_false] at hb
        rcases hb with rfl | rfl
        · exact hIn.2
        · exact Dt
      · intro b hb
        rw [List.mem_singleton.mp hb]
        exact hIn.1
      · intro b hb q
        rw [List.mem_singleton.mp hb] at q
        obtain ⟨u, _, hu⟩ := F₁.vars "function" Fn rfl
        obtain ⟨o, e⟩ := Fn.inb _ _ hu I q
        rw [hI] at e; cases e
      · intro i v s' hlt R' hP
        obtain ⟨u, e', rp⟩ := r.get (i := i) (p := ps[i]) (by simp [hlt])
        have : v = u := by
          have hP : ys.toArray[i]? = some v := hP
          simp [e'] at hP
          exact hP.symm
        subst this
        refine ⟨ps[i], by simp [hlt], ?_⟩
        have t := G₁.tb
        refine Rp.but (wr := ownOf (callEnvC (fdOf w.params 97) L 97) ++ [I, 116, 83]) (fun b o hb e => ?_) (fun b hb => ?_) rp
        · simp only [List.mem_append, List.mem_cons, List.not_mem_nil, or_false, not_or] at hb
          obtain ⟨n1, n2, n3, n4⟩ := hb
          exact R'.keep b o (by simp [n1, n2]) n3 (fun _ => n4) (kp25 _ _ n1 n3 n4 (kp12 _ _ e))
        · rcases List.mem_append.mp hb with z | z
          · exact (noCode (own1 _ z)).2
          · simp only [List.mem_cons, List.not_mem_nil, or_false] at z
            intro vs ⟨m, e⟩
            rcases z with rfl | rfl | rfl
            · rw [hI] at e; cases e
            · rcases t.1 with y | ⟨c', y, _⟩ <;> (rw [e] at y; cases y)
            · obtain ⟨ps, y⟩ := t.2
              rw [e] at y; cases y
      · refine xs_one (x_set (P := R (acc (i + 1))) G (ev_callf hfn (ev_name rfl) (evs_cons (P := R (acc i)) (ev_name rfl) (evs_cons (P := R p) (ev_name rfl) evs_nil)) (fun s v vs G hv hvs => ?_)) off_any (.inl rfl)) (xs_sub (sub_cons (sub_cons sub_nil)))
        obtain ⟨a, b, rfl, ha, hb⟩ := sp2 hvs
        exact hf i p hp A s v a b hR G hv ha hb
      · refine wpAny_mono (xs_last (rest := []) (x_ret (mu := []) G (ev_name (P := R (acc ps.length)) rfl)) s' K' F' E) (fun fl s₆ q => ?_) fun _ _ e => e
        refine ⟨q.1, q.2.1, ?_⟩
        have RR : RO f (ownOf (callEnvC (fdOf w.params 97) L 97) ++ [] ++ [I]) s s₆ :=
          (((((RO.of k₁).trans (.of k₂)).trans R₃.left.left).trans R₄.left).trans (.of k₅)).trans R' |>.trans q.2.2.left
        refine RR.sub fun b hb => ?_
        rcases List.mem_append.mp hb with z | z
        · exact .inl z
        · rw [List.mem_singleton.mp z]
          refine .inr ?_
          cases q : s.heap.get? I with
          | none => rfl
          | some o =>
            have := k₁.kp.keep I o hIn.2.1 (fun _ => hIn.2.2) q
            rw [hI] at this; cases this
end Mine

/- C8 -/
open PySem PySem.Spec PySem.Calls PySem.W PyProof.Rows
set_option maxRecDepth 100000
namespace Mine
theorem Room.weak {n m : Nat} {A : Around} (h : Room m A) (k : n ≤ m) : Room n A := ⟨h.1, by have := h.2.1; omega, by have := h.2.2; omega⟩
abbrev lamObj (params : Arguments) (body : PySem.Expr) (scope : Scope) (c : Addr) (pm : Value) (c' : Addr) (ctv : Value) : Obj := kla_obj "<lambda>" lamQual params body scope [(("row" : Str), c)] pm c' ctv
theorem CodeRec.kp {f : Bool} {h h' : Heap} {c : Addr} {q : Str} (x : h.CodeRec (.ref c) q) (hc : 149 ≤ c) (k : Kp f h h') : h'.CodeRec (.ref c) q := by
  obtain ⟨c₂, o, vs, t, e1, e2, e3, e4⟩ := x
  cases e1
  exact ⟨c, o, vs, t, rfl, k.keep _ _ (fun q => by rw [q] at hc; exact absurd hc (by decide)) (fun _ q => by rw [q] at hc; exact absurd hc (by decide)) e2, e3, e4⟩
/-- the lambda of _law_taken, its cell c holding row -/
def LamV (params : Arguments) (body : PySem.Expr) (scope : Scope) (c : Addr) (row : PV) : SP where
  P h v := ∃ a pm c' ctv rv, v = .ref a ∧ h.get? a = some (lamObj params body scope c pm c' ctv) ∧ (h.CodeRec (.ref c') lamQual ∧ 149 ≤ c') ∧ h.IsCell c (some rv) ∧ Rp h rv row
  base := [c]
  mono := fun t k ⟨a, pm, c', ctv, rv, e, ho, ⟨hc, hz⟩, hi, hr⟩ => ⟨a, pm, c', ctv, rv, e, k.get t ho (fun ps q => by cases q), ⟨CodeRec.kp hc hz k, hz⟩, IsCell.kp hi k t, Rp.kp k t hr⟩
  off := fun own h h' v hb k ⟨a, pm, c', ctv, rv, e, ho, ⟨hc, hz⟩, hi, hr⟩ => by
    refine ⟨a, pm, c', ctv, rv, e, k.get ho (not_frameish (T := "function") rfl (fun _ _ q => by cases q) (fun _ q => by cases q)), ⟨?_, hz⟩, ?_, Rp.st k hr⟩
    · obtain ⟨c₂, o, vs, t, e1, e2, e3, e4⟩ := hc
      refine ⟨c₂, o, vs, t, e1, k.get e2 (fun q => ?_), e3, e4⟩
      exact (frameish_not q).2 _ e3 _ _ e4
    · obtain ⟨o, eo, hd⟩ := hi
      exact ⟨o, k.keep _ _ (fun q => hb _ q (by simp)) eo, hd⟩
  inb := fun h v ⟨a, pm, c', ctv, rv, e, ho, hc, ⟨o, eo, hd⟩, hr⟩ b hb => by
    rw [List.mem_singleton.mp hb]; exact ⟨o, eo⟩
theorem LamV.fn {params : Arguments} {body : PySem.Expr} {scope : Scope} {c : Addr} {row : PV} (h : Heap) (v : Value) (x : (LamV params body scope c row).P h v) : IsFn h v := by
  obtain ⟨a, pm, c', ctv, rv, e, ho, _⟩ := x
  exact ⟨a, _, _, e, ho, rfl⟩
theorem GdBm {w : World} {h : Heap} {mg : Str → Option Value} {P : Addr} (G : Gd w h) (hg : h.Ns mainGlobals mg) (hP : ∃ ps, h.get? P = some (tabObj ps)) : h.BuiltinsAt mg P := by
  obtain ⟨bm, ob, e, n1, e2, c, d, p⟩ := G.bm mg hg
  refine ⟨bm, ob, e, n1, fun q => ?_, fun q => ?_, e2, c, d, p⟩
  · obtain ⟨o, es, ep, e3, hd, _⟩ := hg
    rw [q, e3] at e2; cases e2
    rw [hd] at p; cases p
  · obtain ⟨ps, e3⟩ := hP
    rw [q, e3] at e2; cases e2
    cases c
section
variable {f : Bool} {w : World} {A : Around} {env : Env} {g : Heap} {mu : List Addr} {ρ ρ' : Ro} {e e1 e2 : PySem.Expr} {P P1 P2 : SP} {pos : Pos}
theorem ev_callS {es : List PySem.Expr} {a : Addr} {Ps : List SP} {res : SP} {n : Nat} {fe : PySem.Expr} {e0 : PySem.Expr} (hR : Room n A) (hf : EV f w A env ρ fe (R (.obj a))) (hk : ∀ w : World, keepIn (KK w.params) (.ref a) = true) (h : EVs f w A env ρ (e0 :: es) Ps) (S : SpecOfS f w n a Ps res)
    (hc : ∀ k, eval (.Call fe (e0 :: es) k pos) env = (do callWith pos (← eval fe env) [] (backTo pos (starEach (e0 :: es) env)) (backToKw pos (keywordEach k env))) := by intro _; rfl)
    (he : starEach (e0 :: es) env = (false, eval e0 env) :: starEach es env := by rfl) (hplain : (backTo pos (starEach es env)).any (·.1) = false := by rfl) :
    EV f w A env ρ (.Call fe (e0 :: es) [] pos) res := fun s G F E => by
  rw [hc]
  refine wpAny_bind (wpAny_mono (hf s G F E) (fun v s₁ h₁ => ?_) fun _ _ e => e)
  have r : Rp s₁.heap v (.obj a) := h₁.1
  have G₁ := G.kp h₁.2.kp
  cases r
  refine callWith_K (h₀ := s₁.heap) G₁.K (hk w) (wpAny_mono (h s₁ pos G₁ (F.kp h₁.2.kp G.tb) E) (fun vs s₂ h₂ => ?_) fun _ _ e => e) he hplain
  have G₂ := G₁.kp h₂.2.kp
  exact ⟨G₂.K, wpAny_mono (S A s₂ ([] ++ vs) hR G₂ h₂.1 E) (fun r s₃ h₃ => ⟨h₃.1, (h₁.2.trans h₂.2).trans h₃.2⟩) fun _ _ e => e⟩
theorem ev_lambda {params : Arguments} {body : PySem.Expr} {scope : Scope} {c : Addr} {row : PV} (hcl : closureFor scope env = pure [(("row" : Str), c)]) (hlk : env.cells.lookup ("row" : Str) = some c) (hkd : env.kindOf "row" = some .cell) (hrow : ρ.lookup ("row" : Str) = some (R row))
    (hcode : env.code = .ref 118) (hq : env.qual ++ "<lambda>" = lamQual) (hp : pos.line = lamPos.line ∧ pos.col = lamPos.col) (hge0 : env.globals = mainGlobals := by rfl) (hdef : defaultsOf params env = ([], []) := by rfl) :
    EV f w A env ρ (.Lambda params body scope pos) (LamV params body scope c row) := fun s G F E => by
  refine kla_eval hdef ?_
  obtain ⟨mg, hg⟩ := G.g
  have C : CodeHd s.heap 118 116 := codeHd_of_K G.K (by kernel_rfl)
  obtain ⟨rv, hv, hr⟩ := F "row" _ hrow
  have hcell : s.heap.IsCell c (some rv) := by
    rcases hv with ⟨q, _⟩ | ⟨_, c', e, n⟩
    · rw [hkd] at q; cases q
    · rw [hlk] at e; cases e; exact n
  rw [hq]
  rcases G.tb.1 with e | ⟨c', e, r, z⟩
  · refine kla_makeFunction (c := 118) (P := 116) (ps := #[]) (mg := mg) hcl hge0 hg hcode C e trivial rfl (fun q => ?_) (GdBm G hg ⟨_, e⟩) fun c' ctv h' tk hx hge hlt hrec htb => ?_
    · obtain ⟨o, es, ep, e3, hd, _⟩ := hg
      rw [q, e] at e3; cases e3; cases hd
    · have hz : 149 ≤ c' := Nat.le_trans G.sz hge
      have keep : ∀ b o, b ≠ 116 → s.heap.get? b = some o → (h'.push (lamObj params body scope c ((mg "__name__").getD .none) c' ctv)).get? b = some o := fun b o n e => Heap.get?_push_of_some _ (hx b o n e)
      have k : Kp f s.heap (h'.push (lamObj params body scope c ((mg "__name__").getD .none) c' ctv)) := ⟨fun b o n _ e => keep b o n e, fun t => ⟨.inr ⟨c', by
        have := Heap.get?_push_of_some (lamObj params body scope c ((mg "__name__").getD .none) c' ctv) htb
        rw [hp.1, hp.2] at this
        simpa using this, hrec.push _, hz⟩, let ⟨ps, e⟩ := t.2; ⟨ps, keep _ _ (by decide) e⟩⟩⟩
      exact ⟨⟨_, _, c', ctv, rv, rfl, Heap.get?_push_size _ rfl, ⟨hrec.push _, hz⟩, IsCell.kp hcell k G.tb, Rp.kp k G.tb hr⟩, ⟨_, _, _, rfl, id⟩, k⟩
  · refine kla_makeFunctionHit (c := 118) (P := 116) (mg := mg) (cv := .ref c') hcl hge0 hg hcode C e ?_ ?_ (GdBm G hg ⟨_, e⟩) fun ctv h' tk hx hle => ?_
    · exact trivial
    · unfold codeAmong
      simp [rawInt, hp.1, hp.2]
    · have k : Kp f s.heap (h'.push (lamObj params body scope c ((mg "__name__").getD .none) c' ctv)) := .of_keeps fun b o e => Heap.get?_push_of_some _ (hx b o e)
      exact ⟨⟨_, _, c', ctv, rv, rfl, Heap.get?_push_size _ rfl, ⟨CodeRec.kp r z k, z⟩, IsCell.kp hcell k G.tb, Rp.kp k G.tb hr⟩, ⟨_, _, _, rfl, id⟩, k⟩
def lamEnv (scope : Scope) (L c fa c' : Addr) : Env := newEnv scope L mainGlobals [(("row" : Str), c)] (lamQual ++ ".<locals>.") (some fa) (.ref c') none builtinsNs
theorem lam_call {n : Nat} {params : Arguments} {body : PySem.Expr} {scope : Scope} {c : Addr} {row p1 p2 res : PV} {s : Shared} {v a b : Value} (hR : Room (n + 1) A) (G : Gd w s.heap) (hv : (LamV params body scope c row).P s.heap v) (ha : Rp s.heap a p1) (hb : Rp s.heap b p2)
    (hbind : ∀ pm c' ctv, bindArgs (kla_fn "<lambda>" lamQual params body scope [(("row" : Str), c)] pm (.ref c') ctv) ⟨[a, b], []⟩ = pure [(("places" : Str), a), (("item" : Str), b)]) (hs1 : scope.names.lookup ("places" : Str) = some .local) (hs2 : scope.names.lookup ("item" : Str) = some .local) (hs3 : scope.names.lookup ("row" : Str) = some .free) (hcell : ∀ x ∈ scope.names, x.2 ≠ .cell) (hk : scope.kind = .function)
    (hco : scope.isCoroutine = false) (hgen : scope.isGenerator = false)
    (hbody : ∀ A' L fa c', Room n A' → EV f w A' (lamEnv scope L c fa c') [("places", R p1), ("item", R p2), ("row", R row)] body (R res)) : Ev f w A (call v [a, b]) (R res).P s := fun E => by
  obtain ⟨fa, pm, c', ctv, rv, rfl, ho, ⟨hc, hz⟩, hi, hr⟩ := hv
  have hloc : ∀ y ∈ [(("places" : Str), a), (("item" : Str), b)], scope.names.lookup y.1 = some .local := fun y hy => by
    simp only [List.mem_cons, List.not_mem_nil, or_false] at hy
    rcases hy with rfl | rfl
    · exact hs1
    · exact hs2
  refine wpAny_call (kla_callFunE (by have := hR.2.1; omega) ho rfl hco hgen rfl hc ?_)
  rw [hbind]
  refine wpAny_pure (wpAny_newFunctionEnv hcell hloc (fun h₁ hns hsb => ⟨G.lim.fresh _ hsb, ?_⟩) hk)
  show codeAny _ _ (.expr body (lamEnv scope s.heap.objs.size c fa c')) _ _
  have hR' : Room n (A.deeper (lamEnv scope s.heap.objs.size c fa c')) := by
    obtain ⟨r1, r2, r3⟩ := hR
    refine ⟨r1, ?_, ?_⟩
    · show A.depth + 1 + n < recursionLimit; omega
    · show A.units + 3 + 8 * n + 8 < cLine; omega
  have hk₁ : ∀ b o, s.heap.get? b = some o → h₁.get? b = some o := fun b o e => hsb.extBut b o (Nat.ne_of_lt (Heap.lt_size e)) (Heap.get?_push_of_some _ e)
  have k : Kp f s.heap h₁ := .of_keeps hk₁
  have F : FrV (lamEnv scope s.heap.objs.size c fa c') h₁ [("places", R p1), ("item", R p2), ("row", R row)] := by
    intro y sp e
    simp only [List.lookup_cons, List.lookup_nil] at e
    cases h1 : y == "places" with
    | true =>
      rw [h1] at e; cases e
      rw [beq_iff_eq.mp h1]
      exact ⟨a, .inl ⟨hs1, _, hns, by rfl⟩, Rp.kp k G.tb ha⟩
    | false =>
      rw [h1] at e
      cases h2 : y == "item" with
      | true =>
        rw [h2] at e; cases e
        rw [beq_iff_eq.mp h2]
        exact ⟨b, .inl ⟨hs2, _, hns, by rfl⟩, Rp.kp k G.tb hb⟩
      | false =>
        rw [h2] at e
        cases h3 : y == "row" with
        | true =>
          rw [h3] at e; cases e
          rw [beq_iff_eq.mp h3]
          exact ⟨rv, .inr ⟨.inr hs3, c, rfl, IsCell.kp hi k G.tb⟩, Rp.kp k G.tb hr⟩
        | false => rw [h3] at e; cases e
  refine kla_codeExpr (wpAny_mono (hbody _ _ _ _ hR' _ (G.kp k) F (fun e s' => wpAny (model prg w) (A.deeper (lamEnv scope s.heap.objs.size c fa c')) (leaving (lamEnv scope s.heap.objs.size c fa c') e) (fun _ s'' => E e s'') (fun e' s'' => E e' s'') s')) (fun v s' q => ?_) fun _ _ e => e)
  exact ⟨q.1, (Kps.of_keeps (tk := s.toks + 2) hk₁).trans q.2⟩
end
end Mine

/- C9 -/
open PySem PySem.Spec PySem.Calls PySem.W PyProof.Rows
set_option maxRecDepth 100000
namespace Mine
def decS : PV → Str
  | .str x => x
  | _ => ⟨#[]⟩
def decSs : PV → List Str
  | .list l => l.map decS
  | _ => []
def decL : PV → List (List Str)
  | .list l => l.map decSs
  | _ => []
theorem decSs_p (xs : List Str) : decSs (pS xs) = xs := by
  simp [decSs, List.map_map, Function.comp_def, decS]
theorem decL_p (xs : List (List Str)) : decL (pL xs) = xs := by
  unfold decL pL
  simp only [List.map_map]
  conv => rhs; rw [← List.map_id xs]
  apply List.map_congr_left
  intro x _
  exact decSs_p x
def accP (row : List (List Str)) (items : List (Option Str)) (i : Nat) : List Nat := (items.take i).foldl (fun pl it => stepP pl it row) [0]
def takenP1 (items : List (Option Str)) (row : List (List Str)) : Bool := (accP row items items.length).any (· == row.length)
theorem accP_succ {row : List (List Str)} {items : List (Option Str)} {i : Nat} {o : Option Str} (h : items[i]? = some o) : accP row items (i + 1) = stepP (accP row items i) o row := by
  unfold accP
  rw [List.take_add_one, h]
  simp
theorem accP_ok (row : List (List Str)) (items : List (Option Str)) (i : Nat) : (accP row items i).length ≤ row.length + 1 ∧ ∀ q ∈ accP row items i, q ≤ row.length := by
  induction i with
  | zero => exact ⟨by simp [accP], by simp [accP]⟩
  | succ i ih =>
    cases h : items[i]? with
    | none =>
      have : accP row items (i + 1) = accP row items i := by
        unfold accP
        rw [List.take_add_one, h]; simp
      rw [this]; exact ih
    | some o =>
      rw [accP_succ h]
      obtain ⟨h1, h2⟩ := ih
      cases o with
      | some it =>
        unfold stepP
        refine ⟨?_, fun q hq => ?_⟩
        · rw [List.length_map]; exact Nat.le_trans (List.length_filter_le _ _) h1
        · obtain ⟨r, hr, rfl⟩ := List.mem_map.mp hq
          have := (List.mem_filter.mp hr).2
          simp only [Bool.and_eq_true, decide_eq_true_eq] at this
          exact this.1
      | none =>
        unfold stepP
        cases hp : accP row items i with
        | nil => simp
        | cons q l =>
          simp only
          refine ⟨by simp, fun r hr => ?_⟩
          obtain ⟨j, hj, rfl⟩ := List.mem_map.mp hr
          have := List.mem_range.mp hj
          omega
theorem pN_ints (l : List Nat) : pN l = pI (l.map fun n : Nat => (n : Int)) := by
  unfold pN pI
  rw [List.map_map]; rfl
theorem any_ints (l : List Nat) (n : Nat) : (l.map fun n : Nat => (n : Int)).any (· == (n : Int)) = l.any (· == n) := by
  rw [List.any_map]
  congr 1
  funext m
  show ((m : Int) == (n : Int)) = (m == n)
  rw [Bool.eq_iff_iff, beq_iff_eq, beq_iff_eq]
  omega
theorem reduce_specN (f : Bool) (w : World) {n m : Nat} {Fn : SP} {ps : List PV} {acc : Nat → PV} {l0 : List PV} (hm : ps.length = m) (hfn : ∀ h v, Fn.P h v → IsFn h v) (hz : ps.length ≤ 1000000) (h0 : acc 0 = .list l0)
    (hf : ∀ i p, ps[i]? = some p → ∀ A s v a b, Room n A → Gd w s.heap → Fn.P s.heap v → Rp s.heap a (acc i) → Rp s.heap b p → Ev f w A (call v [a, b]) (R (acc (i + 1))).P s) :
    SpecOfS f w (n + 1) 97 [Fn, R (.list ps), R (acc 0)] (R (acc m)) := by
  subst hm
  exact reduce_spec f w hfn hz h0 hf
theorem body_call (f : Bool) (w : World) {n : Nat} {items : List (Option Str)} {row : List (List Str)} (hr : row.length ≤ 900) (i : Nat) {o : Option Str} : SpecOf f w 1 114 [pN (accP row items i), pO o, pL row] (pN (stepP (accP row items i) o row)) :=
  step_spec f w _ _ _ (by have := (accP_ok row items i).1; omega) (by omega) (accP_ok row items i).2
theorem taken_spec (f : Bool) (w : World) (pat : Str) (items : List (Option Str)) (rows : List (List (List Str))) (ht : SpecOf f w 2 88 [.str pat, .none, .str "?"] (.list (items.map pO))) (hi : items.length ≤ 1000) (hrs : rows.length ≤ 1000) (hr : ∀ row ∈ rows, row.length ≤ 900) :
    SpecOf f w 5 119 [.str pat, .list (rows.map pL)] (pB (rows.map (takenP1 items))) := by
  refine spec_def (fd := fdOf w.params 119) (body := bodyOf w.params 119) (names := ["pattern", "rows"]) rfl rfl rfl ?_ rfl (by decide) (by rfl) ?_ (show (["items"] : List Str).Nodup by decide)
  · intro s vs hl G
    match vs, hl with
    | [v, u], _ => exact BindsTo.of_eq rfl
  · intro A L g hR G
    refine xs_one (x_set (P := R (.list (items.map pO))) G (ev_call (n := 2) (hR.weak (by decide)) (ev_glob (v := .ref 88) (p := .obj 88) (fun _ => rfl) (fun h => .obj 88 (by decide))) (fun _ => rfl) (evs_cons (P := R (.str pat)) (ev_name rfl) (evs_cons (P := R .none) ev_cnone (evs_cons (P := R (.str "?")) ev_cstr evs_nil))) ht) off_any (.inr ⟨rfl, rfl⟩)) ?_
    refine xs_last (x_ret G ?_)
    refine EV.cast (ev_comp (P1 := R (.list (rows.map pL))) (ps := rows.map pL) (b := fun _ => true) (F := fun p => .bool (takenP1 items (decL p))) (ρ' := [("items", R (.list (items.map pO)))]) hR.1 (ev_name rfl) (iter_list hR.1) (by rw [List.length_map]; omega) rfl
        (caps_cons caps_nil) (fun C => .inr ⟨rfl, _, rfl, ?_⟩) (fun C p hp s' G' F' => TestsNil) (fun C p hp hb => ?_) (fun i p hp hb => not_occ_atom fun l z => by cases z)) ?_
    · intro q
      simp only [List.mem_singleton, Prod.mk.injEq] at q
      exact absurd q.1 (by decide)
    · obtain ⟨row, hrow, rfl⟩ := List.mem_map.mp hp
      simp only [decL_p]
      have hrl := hr row hrow
      refine ev_cmp (P1 := R (.int row.length)) (P2 := R (pI ((accP row items items.length).map fun n : Nat => (n : Int)))) (ev_callb (id := "len") (ev_blt (v := .builtin "len") (fun _ => rfl) (by rfl) (fun h => .bi _)) (evs_cons (P := R (pL row)) (ev_name rfl) evs_nil) (fun s vs G h => ?_)) ?_ (fun s a c _ ha hc => ?_)
      · obtain ⟨a, rfl, ha⟩ := sp1 h
        have := op_len_list (f := f) (w := w) (A := A) ha (by rw [List.length_map]; omega)
        rw [List.length_map] at this
        exact this
      · rw [← pN_ints]
        refine ev_callS (n := 3) (hR.weak (by decide)) (ev_glob (v := .ref 97) (p := .obj 97) (fun _ => rfl) (fun h => .obj 97 (by decide))) (fun _ => rfl) (evs_cons (P := LamV _ _ _ (C + 1) (pL row)) (ev_lambda ?hcl ?hlk ?hkd ?hrow ?hcode ?hq ?hp) (evs_cons (P := R (.list (items.map pO))) (ev_name rfl) (evs_cons (P := R (pN [0])) (ev_list (ps := [iN 0]) (evs_cons (P := R (.int 0)) ev_cint evs_nil) (by decide)) evs_nil))) ?hS
        case hcl => rfl
        case hlk => rfl
        case hkd => rfl
        case hrow => rfl
        case hcode => rfl
        case hq => kernel_rfl
        case hp => exact ⟨rfl, rfl⟩
        case hS =>
          refine reduce_specN f w (n := 2) (ps := items.map pO) (acc := fun i => pN (accP row items i)) (l0 := [iN 0]) (List.length_map ..) LamV.fn (by rw [List.length_map]; omega) rfl (fun i p hp A s v a b hR G hv ha hb => ?_)
          rw [List.getElem?_map] at hp
          obtain ⟨o, ho, rfl⟩ := Option.map_eq_some_iff.mp hp
          rw [accP_succ ho]
          refine lam_call (n := 1) hR G hv ha hb (fun _ _ _ => rfl) rfl rfl rfl (by decide) rfl rfl rfl (fun A' L fa c' hR' => ?_)
          exact ev_call (n := 1) hR' (ev_glob (v := .ref 114) (p := .obj 114) (fun _ => rfl) (fun h => .obj 114 (by decide))) (fun _ => rfl) (evs_cons (P := R (pN (accP row items i))) (ev_name rfl) (evs_cons (P := R (pO o)) (ev_name rfl) (evs_cons (P := R (pL row)) (ev_name rfl) evs_nil))) (body_call f w (n := 0) hrl i)
      · have := op_in_ints (f := f) (w := w) (A := A) ha hc
        rw [any_ints] at this
        exact this
    · have e : (rows.map pL).filter (fun _ => true) = rows.map pL := List.filter_eq_self.mpr fun _ _ => rfl
      rw [e, List.map_map]
      unfold pB
      rw [List.map_map]
      congr 1
      apply List.map_congr_left
      intro row _
      show PV.bool (takenP1 items (decL (pL row))) = PV.bool (takenP1 items row)
      rw [decL_p]
end Mine

/- L9 -/
open PySem PySem.Spec PySem.Calls PySem.W PyProof.Rows
namespace Mine
section
variable {f : Bool} {w : World} {A : Around} {env : Env} {ρ ρ' : Ro}
theorem comp_core {elt iter : PySem.Expr} {x : Str} {px : Pos} {ifs : List PySem.Expr} {scope : Scope} {cl : List (Str × Addr)} {pos : Pos} {P1 : SP} {ps : List PV} {b : PV → Bool} {F : PV → PV}
    (hh : A.handled = none) (hi : EV f w A env ρ iter P1) (hit : Iter f w A P1 ps) (hsz : ps.length ≤ 1000000) (hclos : closureFor scope env = pure cl)
    (hcap : Caps scope cl env ρ ρ')
    (hxk : ∀ C, (cEnv scope cl C env).kindOf x = some .local ∨ ((cEnv scope cl C env).kindOf x = some .cell ∧ ∃ c, (cEnv scope cl C env).cells.lookup x = some c ∧ (x, c) ∉ cl))
    (ht : ∀ C, ∀ p ∈ ps, ∀ s', Gd w s'.heap → FrV (cEnv scope cl C env) s'.heap ((x, R p) :: ρ') → Ev f w A (forIn ifs true fun c r => if r = true then do let ok ← isTrue c (cEnv scope cl C env) (eval c (cEnv scope cl C env)); pure (ForInStep.yield ok) else pure (ForInStep.yield r)) (fun _ v => v = b p) s')
    (he : ∀ C, ∀ p ∈ ps, b p = true → EV f w A (cEnv scope cl C env) ((x, R p) :: ρ') elt (R (F p)))
    (hsep : ∀ i, ∀ p ∈ ps, b p = true → ¬ Occ (.list (((ps.take i).filter b).map F)) (F p))
    (hnames : ∀ z ∈ scope.names, z.2 = .local → scope.names.lookup z.1 = some .local := by decide)
    (hkind : scope.kind = .function := by rfl)
    (hs : ∀ x, foldedSetIterable iter env x = pure x := by intro _; rfl) {use : Option (Value → Sem Unit)} {Q : Value → Shared → Prop} {E : Value → Shared → Prop} {s : Shared} {ipos : Pos} (G : Gd w s.heap) (Fr : FrV env s.heap ρ)
    (hend : ∀ D C s', New s.heap C → D ≠ C → (∃ m, s'.heap.Ns C m) → Rp s'.heap (.ref D) (.list ((ps.filter b).map F)) → Kps f s s' → compPost (model prg w) A E use Q (.ref D) C (.ok .next) s') :
    wpAny (model prg w) A (comprehension (.ListComp elt [⟨.Name x px, iter, ifs, 0⟩] scope pos) scope env ipos (newList []) false (eval iter env) use) Q E s := by
  refine wpAny_comprehension_free (use := use) rfl hs hclos hkind hnames (wpAny_mono (hi s G Fr E) (fun v s₁ h₁ => ?_) fun _ _ e => e)
  have G₁ := G.kp h₁.2.kp
  have F₁ := Fr.kp h₁.2.kp G.tb
  refine hit s₁ v G₁ h₁.1 _ _ fun s₂ I fp wr P St S k₂ => ?_
  have G₂ := G₁.kp k₂.kp
  have K₂ : Kp f s₁.heap s₂.heap := k₂.kp
  refine wpAny_newObj_type (newCompEnv fun h' kh nC hcells => ?_)
  have K₃ : Kp f s₁.heap (s₂.heap.push { cls := .type "list", data := .seq ([] : List Value).toArray }) := K₂.trans (.of_keeps fun _ _ e => Heap.get?_push_of_some _ e)
  have K₄ : Kp f s₁.heap h' := K₃.trans (.of_keeps kh)
  have nD : New s₁.heap s₂.heap.objs.size := new_of K₂ G₁.tb (Nat.le_refl _)
  have hC1 : (s₂.heap.push { cls := .type "list", data := .seq ([] : List Value).toArray }).objs.size = s₂.heap.objs.size + 1 := Heap.size_push _ _
  generalize hH : (s₂.heap.push { cls := .type "list", data := .seq ([] : List Value).toArray }) = H3 at *
  have nCn : New s₁.heap H3.objs.size := new_of K₃ G₁.tb (Nat.le_refl _)
  have fpD : s₂.heap.objs.size ∉ fp := fun q => Nat.lt_irrefl _ (S.lt _ q)
  have fpC : ∀ a, s₂.heap.objs.size < a → a ∉ fp := fun a ha q => Nat.lt_irrefl _ (Nat.lt_trans ha (S.lt _ q))
  have hDl : h'.PlainList s₂.heap.objs.size #[] := ⟨0, kh _ _ (hH ▸ Heap.get?_push_size _ rfl)⟩
  have keep2 : ∀ b o, s₂.heap.get? b = some o → h'.get? b = some o := fun b o e => kh _ _ (hH ▸ Heap.get?_push_of_some _ e)
  have st' : St 0 h' := S.W.frame _ _ _ S.st fun b _ o e => keep2 b o e
  have R₂ : Rest s s₂ := (Rest.trans (show Rest s s₁ from h₁.2.ex) k₂.ex)
  have body : ∀ s₅ : Shared, s₅ = { s₂ with heap := h' } → codeAny (model prg w) A (.compLoop (.ListComp elt [⟨.Name x px, iter, ifs, 0⟩] scope pos) 0 (.ref I) (.ref s₂.heap.objs.size) (cEnv scope cl H3.objs.size env))
      (compPost (model prg w) A E use Q (.ref s₂.heap.objs.size) H3.objs.size) s₅ := by
    rintro s₅ rfl
    have hx' := hxk H3.objs.size
    have hcx : ∃ cx, ((cEnv scope cl H3.objs.size env).kindOf x = some .local ∨ ((cEnv scope cl H3.objs.size env).kindOf x = some .cell ∧ (cEnv scope cl H3.objs.size env).cells.lookup x = some cx)) ∧ ((cEnv scope cl H3.objs.size env).kindOf x = some .cell → (∃ v, h'.IsCell cx v) ∧ New s₁.heap cx ∧ cx ∉ fp ∧ cx ≠ s₂.heap.objs.size ∧ cx ≠ H3.objs.size) := by
      rcases hx' with q | ⟨q, c, e, n⟩
      · exact ⟨0, .inl q, fun z => by rw [q] at z; cases z⟩
      · refine ⟨c, .inr ⟨q, e⟩, fun _ => ?_⟩
        rcases hcells x c (mem_lookup e) with z | ⟨z1, z2⟩
        · exact absurd z n
        · have z3 : H3.objs.size < c := z1
          exact ⟨⟨_, z2⟩, new_of K₃ G₁.tb (Nat.le_of_lt z3), fpC c (by omega), Nat.ne_of_gt (by omega), Nat.ne_of_gt z3⟩
    obtain ⟨cx, hx1, hx2⟩ := hcx
    refine comp_loop (env := cEnv scope cl H3.objs.size env) (ρ := ρ') (b := b) (F := F) (cx := cx) G₁ S st' K₄ hDl ⟨_, nC⟩ (by show (relabel scope env).kind = .function; exact hkind) hx1 hx2 nD nCn (by show s₂.heap.objs.size ≠ H3.objs.size; omega) fpD (fpC _ (by show _ < H3.objs.size; omega)) hsz (hcap.frv F₁) (ht _) (fun p hp hb s' G' F' => he _ p hp hb s' G' F') hsep ?_
    intro s' ys R' K' D' r' ⟨m, n'⟩
    have nC1 : s.heap.get? H3.objs.size = none := by
      cases q : s.heap.get? H3.objs.size with
      | none => rfl
      | some o =>
        have := h₁.2.kp.keep _ o nCn.2.1 (fun _ => nCn.2.2) q
        rw [nCn.1] at this
        cases this
    have nC0 : New s.heap H3.objs.size := ⟨nC1, nCn.2⟩
    have RR : Rest s s' := (R₂.trans .ofH).trans R'
    refine hend _ _ s' nC0 (Nat.ne_of_lt (by omega)) ⟨m, n'⟩ ?_ ⟨RR, h₁.2.kp.trans K'⟩
    exact .list (Nat.le_trans G₂.sz (Nat.le_refl _)) (by simpa using D') (by simpa using r')
  refine codeAny_compStart_list (body _ rfl) (S.W.self 0 _ _ _ st' (body _ rfl))

/-- y = [.. for x in ..], on one line: the store comes inside the block -/
theorem x_setc {g : Heap} {mu : List Addr} {elt iter : PySem.Expr} {x y : Str} {px py : Pos} {ifs : List PySem.Expr} {scope : Scope} {cl : List (Str × Addr)} {pos spos : Pos} {P1 : SP} {ps : List PV} {b : PV → Bool} {F : PV → PV}
    (G : Gd w g) (hh : A.handled = none) (hi : EV f w A env ρ iter P1) (hit : Iter f w A P1 ps) (hsz : ps.length ≤ 1000000) (hclos : closureFor scope env = pure cl)
    (hcap : Caps scope cl env ρ ρ')
    (hxk : ∀ C, (cEnv scope cl C env).kindOf x = some .local ∨ ((cEnv scope cl C env).kindOf x = some .cell ∧ ∃ c, (cEnv scope cl C env).cells.lookup x = some c ∧ (x, c) ∉ cl))
    (ht : ∀ C, ∀ p ∈ ps, ∀ s', Gd w s'.heap → FrV (cEnv scope cl C env) s'.heap ((x, R p) :: ρ') → Ev f w A (forIn ifs true fun c r => if r = true then do let ok ← isTrue c (cEnv scope cl C env) (eval c (cEnv scope cl C env)); pure (ForInStep.yield ok) else pure (ForInStep.yield r)) (fun _ v => v = b p) s')
    (he : ∀ C, ∀ p ∈ ps, b p = true → EV f w A (cEnv scope cl C env) ((x, R p) :: ρ') elt (R (F p)))
    (hsep : ∀ i, ∀ p ∈ ps, b p = true → ¬ Occ (.list (((ps.take i).filter b).map F)) (F p))
    (hy : env.kindOf y = some .local)
    (hsw : swapsWith (.ListComp elt [⟨.Name x px, iter, ifs, 0⟩] scope pos) (some (.Name y py)) spos.line env = pure true := by rfl)
    (hnames : ∀ z ∈ scope.names, z.2 = .local → scope.names.lookup z.1 = some .local := by decide)
    (hkind : scope.kind = .function := by rfl) (hk : env.scope.kind = .function := by rfl)
    (hs : ∀ x, foldedSetIterable iter env x = pure x := by intro _; rfl) : X1 f w A env g mu ρ (.Assign [.Name y py] (.ListComp elt [⟨.Name x px, iter, ifs, 0⟩] scope pos) spos) (nextP env g ((y, R (.list ((ps.filter b).map F))) :: ρ)) := fun s K Fr E => by
  rw [exec_Assign_Name_used _ _ _ _ hsw]
  refine wpAny_bind (wpAny_standAt (wpAny_bind ?_))
  show wpAny _ A (do let _ ← comprehension (.ListComp elt [⟨.Name x px, iter, ifs, 0⟩] scope pos) scope env _ (newList []) false (eval iter env) (some (assign (.Name y py) env))) _ _ s
  refine wpAny_bind (wpAny_mono (comp_core (use := some (assign (.Name y py) env)) (Q := fun _ s' => nextP env g ((y, R (.list ((ps.filter b).map F))) :: ρ) .next s'.heap ∧ Kp f g s'.heap ∧ RO f (ownOf env ++ mu) s s') hh hi hit hsz hclos hcap hxk ht he hsep hnames hkind hs (G.kp K) Fr.vars ?_) (fun _ s' hq => wpAny_pure (wpAny_pure hq)) fun _ _ e => e)
  intro D C s' nC hDC hns hD k
  have K' := K.trans k.kp
  have F' := Fr.kp k.kp (G.kp K).tb
  show wpAny _ A (assign (.Name y py) env (.ref D)) _ _ _
  refine wpAny_assign_Name (store_ (P := R (.list ((ps.filter b).map F))) F' K' hD off_R hk (.inl hy) fun s₂ K₂ F₂ R₂ S₂ => ?_)
  have CO : C ∉ ownOf env := fun q => by
    obtain ⟨o, e, _⟩ := Fr.fr _ q
    rw [nC.1] at e; cases e
  have nCg : g.get? C = none := by
    cases q : g.get? C with
    | none => rfl
    | some o =>
      have := K.keep C o nC.2.1 (fun _ => nC.2.2) q
      rw [nC.1] at this; cases this
  obtain ⟨m, hns⟩ := hns
  have hns₂ : s₂.heap.Ns C m := hns.at' fun o e => S₂.keep _ _ CO e
  refine ⟨m, hns₂, fun h' hsb => ?_⟩
  have SC : St [C] s₂.heap h' := ⟨fun b hb => by rw [List.mem_singleton.mp hb]; exact Heap.Ns.frameish hns₂, fun b o hb e => hsb.extBut b o (fun q => hb (by simp [q])) e⟩
  have hoffs : Offs [C] ((y, R (.list ((ps.filter b).map F))) :: ρ) := offs_cons off_R fun z sp e c hc hb => by
    rw [List.mem_singleton.mp hc] at hb
    obtain ⟨v, _, hv⟩ := Fr.vars z sp e
    obtain ⟨o, e'⟩ := sp.inb _ _ hv C hb
    rw [nC.1] at e'; cases e'
  refine ⟨⟨rfl, F₂.adv SC (fun b hb => by rw [List.mem_singleton.mp hb]; exact CO) hoffs⟩, K₂.st SC (fun b hb => by rw [List.mem_singleton.mp hb]; exact nCg), ?_⟩
  have r1 : RO f (ownOf env ++ mu ++ [C]) s { s₂ with heap := h' } := (((RO.of k).trans R₂.left.left)).trans ⟨.ofH, fun b o n1 _ _ e => SC.keep b o (fun q => n1 (List.mem_append_right _ q)) e⟩
  refine r1.sub fun b hb => ?_
  rcases List.mem_append.mp hb with z | z
  · exact .inl z
  · rw [List.mem_singleton.mp z]; exact .inr nC.1
end
end Mine

/- C10 -/
open PySem PySem.Spec PySem.Calls PySem.W PyProof.Rows
set_option maxRecDepth 100000
namespace Mine
def headP (y t : Nat) : Str := if y / (16 * 2 ^ t) % 2 = 0 then "a" else "b"
def headsP (y : Nat) : List Str := (List.range (y / 4 % 4)).map (headP y)
def bases : List Str := ["local", "b.local", "a.a", "7"]
def hostP (y : Nat) : Str := Txt.join "." (headsP y ++ [bases[y % 4]?.getD ""])
theorem host_weight (y : Nat) : ((headsP y ++ [bases[y % 4]?.getD ""]).map (·.length)).sum + (headsP y ++ [bases[y % 4]?.getD ""]).length ≤ 1000 := by
  have h1 : ∀ t, (headP y t).length = 1 := fun t => by unfold headP; split <;> rfl
  have h2 : (bases[y % 4]?.getD "").length ≤ 7 := by
    have : y % 4 < 4 := Nat.mod_lt _ (by decide)
    generalize y % 4 = z at this
    match z, this with
    | 0, _ => decide
    | 1, _ => decide
    | 2, _ => decide
    | 3, _ => decide
  have h3 : ∀ l : List Nat, ((l.map (headP y)).map (·.length)).sum = l.length := by
    intro l
    induction l with
    | nil => rfl
    | cons t l ih => simp only [List.map_cons, List.sum_cons, h1, ih, List.length_cons]; omega
  have h4 : y / 4 % 4 < 4 := Nat.mod_lt _ (by decide)
  rw [List.map_append, List.sum_append, List.length_append]
  unfold headsP
  rw [h3]
  simp
  omega
section
variable {f : Bool} {w : World} {A : Around} {s : Shared} {a b : Value} {x : Str} {ys : List Str}
theorem m_join (ha : Rp s.heap a (.str x)) (hb : Rp s.heap b (pS ys)) (hx : x.length ≤ 16) (hw : (ys.map (·.length)).sum + ys.length ≤ 1048576) : Ev f w A (call (.builtin "str.join") [a, b]) (R (.str (Txt.join x ys))).P s := fun E => by
  cases ha
  cases hb with
  | list z l r => exact join_listW l.isList (by simpa using strsAre r) hx hw fun t' k => ⟨.str _ _, .toks⟩
end
/-- a method's call, word by word -/
theorem hc_meth {env : Env} {o : PySem.Expr} {name : Str} {apos pos : Pos} {args : List PySem.Expr} (ha : attributeBase o name env (eval o env) = eval o env) (hform : methodCallForm (args.length + 0) (backTo pos (starEach args env)) [] = true) (hl : (apos.endLine == pos.line) = true) :
    eval (.Call (.Attribute o name apos) args [] pos) env = (do
      let ov ← eval o env
      standAt apos.atName
      let (f, first) ← holding [ov] (getMethod ov name (do return (← importBound o env).getD true))
      callWith pos f first (backTo pos (starEach args env)) []) := by
  have h1 : eval (.Call (.Attribute o name apos) args [] pos) env = (do
      let ov ← attributeBase o name env (eval o env)
      standAt apos.atName
      methodCall o name apos pos env ov (args.length + 0) (backTo pos (starEach args env)) (backToKw pos (keywordEach [] env))) := rfl
  rw [h1, ha]
  have h2 : backToKw pos (keywordEach [] env) = [] := rfl
  rw [h2]
  unfold methodCall calleeOf methodCallPos
  simp only [hform, hl, Bool.not_true, Bool.false_or, if_true, pure_bind]
set_option maxHeartbeats 2000000 in
theorem host_spec (f : Bool) (w : World) (x : Int) (y : Nat) (hy : x.fmod 128 = y) : SpecOf f w 1 102 [.int x] (.str (hostP y)) := by
  refine spec_def (fd := fdOf w.params 102) (body := bodyOf w.params 102) (names := ["x"]) rfl rfl rfl ?_ rfl (by decide) (by rfl) ?_ (show (["y"] : List Str).Nodup by decide)
  · intro s vs hl G
    match vs, hl with
    | [v], _ => exact BindsTo.of_eq rfl
  · intro A L g hR G
    have hlt : y < 128 := by
      have := Int.fmod_lt_of_pos x (show (0:Int) < 128 by decide)
      omega
    refine xs_one (x_set (P := R (.int y)) G (EV.cast (ev_bin (P1 := R (.int x)) (P2 := R (.int 128)) (P := R (.int (x.fmod 128))) (ev_name rfl) ev_cint (fun s a b _ ha hb => op_mod_int ha hb (by decide))) (by rw [hy])) off_any (.inr ⟨rfl, rfl⟩)) ?_
    have eh : (((upFrom 0 (y / 4 % 4)).map PV.int).filter (fun _ => true)).map (fun p => match p with | .int t => .str (headP y t.toNat) | p => .none) = (headsP y).map PV.str := by
        have e : ((upFrom 0 (y / 4 % 4)).map PV.int).filter (fun _ => true) = (upFrom 0 (y / 4 % 4)).map PV.int := List.filter_eq_self.mpr fun _ _ => rfl
        rw [e, List.map_map]
        unfold upFrom headsP
        rw [List.map_map, List.map_map]
        apply List.map_congr_left
        intro t _
        simp
    refine xs_one (ρ' := [("heads", R (pS (headsP y))), ("y", R (.int y))]) ?_ ?_
    · rw [show pS (headsP y) = .list ((((upFrom 0 (y / 4 % 4)).map PV.int).filter (fun _ => true)).map (fun p => match p with | .int t => .str (headP y t.toNat) | p => .none)) from by rw [eh]]
      refine x_sub (ρ0 := [("y", R (.int y))]) (sub_cons sub_nil) (x_setc (P1 := RR 0 ((y / 4 % 4 : Nat) : Int)) (ps := (upFrom 0 (y / 4 % 4)).map .int) (b := fun _ => true) (F := fun p => match p with | .int t => .str (headP y t.toNat) | p => .none) (ρ' := [("y", R (.int y))]) G hR.1 ?_ (iter_range hR.1 (by simp) (by decide) (by decide) (by omega)) (by simp [upFrom]; omega) rfl
        (caps_cons caps_nil) (fun C => .inl rfl) (fun C p hp s' G' F' => TestsNil) (fun C p hp hb => ?_) (fun i p hp hb => not_occ_atom fun l z => by split at z <;> cases z) rfl)
      · refine ev_callt (id := "range") (ev_blt (v := .type "range") (fun _ => rfl) (by rfl) (fun h => .ty _)) (evs_cons (P := R (.int ((y / 4 % 4 : Nat) : Int))) (EV.cast (ev_bin (P1 := R (.int ((y / 4 : Nat) : Int))) (P2 := R (.int 4)) (P := R (.int (((y / 4 : Nat) : Int).fmod 4))) (EV.cast (ev_bin (P1 := R (.int y)) (P2 := R (.int 4)) (P := R (.int ((y : Int).fdiv 4))) (ev_name rfl) ev_cint (fun s a b _ ha hb => op_div_int ha hb (by decide) (by decide))) (by rw [Int.ofNat_fdiv]; rfl)) ev_cint (fun s a b _ ha hb => op_mod_int ha hb (by decide))) (by rw [Int.ofNat_fmod]; rfl)) evs_nil) (fun s vs G h => ?_)
        obtain ⟨a, rfl, ha⟩ := sp1 h
        exact op_range1 ha
      · obtain ⟨i, hi, rfl⟩ := List.mem_map.mp hp
        obtain ⟨t, ht, rfl⟩ := List.mem_map.mp hi
        have ht := List.mem_range.mp ht
        have htz : ((0 : Int) + (t : Int)).toNat = t := by omega
        simp only [htz]
        have hpow : (2 : Int) ^ t = ((2 ^ t : Nat) : Int) := by simp
        have hpt : 2 ^ t ≤ 8 := by
          have : t ≤ 3 := by omega
          exact Nat.le_trans (Nat.pow_le_pow_right (n := 2) (by decide) this) (by decide)
        have hk : y / (16 * 2 ^ t) % 2 < 2 := Nat.mod_lt _ (by decide)
        refine ev_sub (P1 := R (.str "ab")) (P2 := R (.int ((y / (16 * 2 ^ t) % 2 : Nat) : Int))) ev_cstr ?_ (fun s a b _ ha hb => ?_)
        · refine EV.cast (ev_bin (P1 := R (.int ((y / (16 * 2 ^ t) : Nat) : Int))) (P2 := R (.int 2)) (P := R (.int (((y / (16 * 2 ^ t) : Nat) : Int).fmod 2))) ?_ ev_cint (fun s a b _ ha hb => op_mod_int ha hb (by decide))) (by rw [Int.ofNat_fmod]; rfl)
          refine EV.cast (ev_bin (P1 := R (.int y)) (P2 := R (.int ((16 * 2 ^ t : Nat) : Int))) (P := R (.int ((y : Int).fdiv ((16 * 2 ^ t : Nat) : Int)))) (ev_name rfl) ?_ (fun s a b _ ha hb => op_div_int ha hb (by have := Nat.two_pow_pos t; omega) (by omega))) (by rw [Int.ofNat_fdiv])
          refine EV.cast (ev_bin (P1 := R (.int 16)) (P2 := R (.int ((2 ^ t : Nat) : Int))) (P := R (.int (16 * ((2 ^ t : Nat) : Int)))) ev_cint ?_ (fun s a b _ ha hb => op_mul_int ha hb (by decide) (by decide))) (by push_cast; rfl)
          refine EV.cast (ev_bin (P1 := R (.int 2)) (P2 := R (.int (0 + (t : Int)))) (P := R (.int ((2 : Int) ^ (0 + (t : Int)).toNat))) ev_cint (ev_name rfl) (fun s a b _ ha hb => op_pow_int ha hb (by omega) (by omega) (by decide))) (by rw [htz, hpow])
        · have key : ∀ k : Nat, k < 2 → (seqIndex? (k : Int) ("ab" : Str).length).bind (("ab" : Str).cps[·]?) = some (if k = 0 then 97 else 98) := by decide
          refine (op_item_str ha hb (by omega) (by omega) (key _ hk)).mono fun v s' _ r => ?_
          unfold headP
          split at r
          · rename_i h; rw [if_pos h]; exact r
          · rename_i h; rw [if_neg h]; exact r
    · have hw := host_weight y
      unfold hostP
      generalize hlast : bases[y % 4]?.getD "" = last at *
      generalize hys : headsP y ++ [last] = ys at *
      generalize hj : Txt.join "." ys = jn
      refine xs_last (x_ret G (ev_meth (P1 := R (.str ".")) ev_cstr (gm_str F.slot_str_join F.type_str_join) (evs_cons (P := R (pS ys)) ?_ evs_nil) (fun s v vs G r hv => ?_) (hc_meth rfl (by rfl) (by rfl))))
      · subst hys
        have hz : (headsP y).length ≤ 3 := by
          unfold headsP; rw [List.length_map, List.length_range]; omega
        refine EV.cast (ev_bin (P1 := R (pS (headsP y))) (P2 := R (.list [.str last])) (P := R (.list ((headsP y).map PV.str ++ [PV.str last]))) (ev_name rfl) (ev_list (ps := [.str last]) (evs_cons ?_ evs_nil) (Nat.le_of_ble_eq_true rfl)) (fun s a b G ha hb => op_add_list G ha hb (by rw [List.length_map]; simp; omega))) (by unfold pS; rw [List.map_append]; rfl)
        subst hlast
        refine ev_sub (P1 := R (pS bases)) (P2 := R (.int ((y % 4 : Nat) : Int))) (ev_list (ps := bases.map .str) (evs_cons ev_cstr (evs_cons ev_cstr (evs_cons ev_cstr (evs_cons ev_cstr evs_nil)))) (by decide)) (EV.cast (ev_bin (P1 := R (.int y)) (P2 := R (.int 4)) (P := R (.int ((y : Int).fmod 4))) (ev_name rfl) ev_cint (fun s a b _ ha hb => op_mod_int ha hb (by decide))) (by rw [Int.ofNat_fmod]; rfl)) (fun s a b _ ha hb => op_item_list ha hb (by omega) (by omega) ?_)
        have : y % 4 < 4 := Nat.mod_lt _ (by decide)
        rw [Int.toNat_natCast, List.getElem?_map]
        simp [show y % 4 < bases.length from this]
      · obtain ⟨u, rfl, hu⟩ := sp1 hv
        subst hj
        exact m_join r hu (by decide) (by omega)
end Mine

/- C11 -/
open PySem PySem.Spec PySem.Calls PySem.W PyProof.Rows
set_option maxRecDepth 100000
namespace Mine
/-- a text in small letters, one that the pattern's search goes through -/
def gt (x : Str) : Bool := okx x && Txt.lower x == x && Nat.ble x.length 100
theorem gt_ok {x : Str} (h : gt x = true) : okx x = true := by unfold gt at h; simp only [Bool.and_eq_true] at h; exact h.1.1
theorem gt_low {x : Str} (h : gt x = true) : Txt.lower x = x := by unfold gt at h; simp only [Bool.and_eq_true] at h; exact beq_iff_eq.mp h.1.2
theorem gt_len {x : Str} (h : gt x = true) : x.length ≤ 100 := by unfold gt at h; simp only [Bool.and_eq_true] at h; exact Nat.le_of_ble_eq_true h.2
theorem long_of {n : Nat} (h : n ≤ 1000) : Builtin.Str.tooLong n = false := by
  unfold Builtin.Str.tooLong
  rw [decide_eq_false_iff_not, sizeLine_eq]
  omega
theorem udm_gt (f : Bool) (w : World) {x y : Str} (hx : gt x = true) (hy : gt y = true) : SpecOf f w 2 57 [.str x, .str y] (.bool (udmL x y)) :=
  udm_spec f w x y x y (gt_low hx) (gt_low hy) (gt_ok hx) (gt_ok hy) (long_of (by have := gt_len hx; omega)) (long_of (by have := gt_len hy; omega))
def patternP (rule : Str) : Str := if (⟨#[firstC rule]⟩ : Str) == "." then "*" ++ rule else rule
theorem pattern_spec (f : Bool) (w : World) (x : Str) (hx : (x == "") = false) (hz : x.length ≤ 1000) : SpecOf f w 1 133 [.str x] (.str (patternP x)) := by
  refine spec_def (fd := fdOf w.params 133) (body := bodyOf w.params 133) (names := ["rule"]) rfl rfl rfl ?_ rfl (by decide) (by rfl) ?_ (show ([] : List Str).Nodup from List.nodup_nil)
  · intro s vs hl G
    match vs, hl with
    | [v], _ => exact BindsTo.of_eq rfl
  · intro A L g hR G
    unfold patternP
    refine xs_ifret (b := (⟨#[firstC x]⟩ : Str) == ".") G (eb_cmp (P1 := R (.str ⟨#[firstC x]⟩)) (P2 := R (.str ".")) (ev_sub (P1 := R (.str x)) (P2 := R (.int 0)) (ev_name rfl) ev_cint (fun s a b _ ha hb => op_item_str ha hb (by decide) (by decide) (first_of hx))) ev_cstr (fun s a c _ ha hc => op_eq_str ha hc)) (fun h => ?_) (fun h => ?_)
    · rw [if_pos h]
      exact xs_last (x_ret G (ev_bin (P1 := R (.str "*")) (P2 := R (.str x)) ev_cstr (ev_name rfl) (fun s a c _ ha hc => op_add_str ha hc (by show 1 + _ ≤ _; omega))))
    · rw [if_neg (by rw [h]; exact Bool.false_ne_true)]
      exact xs_last (x_ret G (ev_name rfl))
theorem filt_str (l : List Str) (b : Str → Bool) : ((l.map PV.str).filter (fun p => b (decS p))).map (fun p => p) = (l.filter b).map PV.str := by
  induction l with
  | nil => rfl
  | cons x l ih =>
    have e : decS (PV.str x) = x := rfl
    simp only [List.map_cons, List.filter_cons, e]
    cases b x with
    | true => simp only [if_true, List.map_cons]; rw [ih]
    | false => simp only [Bool.false_eq_true, if_false]; exact ih
theorem TestsEB {f : Bool} {w : World} {A : Around} {env : Env} {ρ : Ro} {c : PySem.Expr} {b : Bool} {s : Shared} (G : Gd w s.heap) (F : FrV env s.heap ρ) (h : EB f w A env ρ c b) :
    Ev f w A (forIn [c] true fun c r => if r = true then do let ok ← isTrue c env (eval c env); pure (ForInStep.yield ok) else pure (ForInStep.yield r)) (fun _ v => v = b) s := TestsOne (h s G F)
def keepP (kept : List Str) (rule : Str) : List Str := if (kept.filter fun one => udmL rule one).isEmpty then (kept.filter fun one => !udmL one rule) ++ [rule] else kept
set_option maxHeartbeats 2000000 in
theorem keep_spec (f : Bool) (w : World) (kept : List Str) (rule : Str) (hk : ∀ x ∈ kept, gt x = true) (hr : gt rule = true) (hz : kept.length ≤ 1000) : SpecOf f w 3 138 [pS kept, .str rule] (pS (keepP kept rule)) := by
  refine spec_def (fd := fdOf w.params 138) (body := bodyOf w.params 138) (names := ["kept", "rule"]) rfl rfl rfl ?_ rfl (by decide) (by rfl) ?_ (show (["rule"] : List Str).Nodup by decide)
  · intro s vs hl G
    match vs, hl with
    | [v, u], _ => exact BindsTo.of_eq rfl
  · intro A L g hR G
    have hu : A.units < cLine := by have := hR.2.2; omega
    unfold keepP
    refine xs_ifret (b := !(kept.filter fun one => udmL rule one).isEmpty) G (EB.cast (eb_cmp (P1 := R (pS (kept.filter fun one => udmL rule one))) (P2 := R (.list []))
      (EV.cast (ev_comp (P1 := R (pS kept)) (ps := kept.map PV.str) (b := fun p => udmL rule (decS p)) (F := fun p => p) (ρ' := [("rule", R (.str rule))]) hR.1 (ev_name rfl) (iter_list hR.1) (by rw [List.length_map]; omega) rfl
        (caps_cons caps_nil) (fun C => .inl rfl) (fun C p hp s' G' F' => ?_) (fun C p hp hb => ev_name rfl) (fun i p hp hb => ?_)) (by rw [filt_str])) (ev_list (ps := []) evs_nil (Nat.zero_le _)) (fun s a c _ ha hc => op_ne_nil hu ha hc)) (by rw [List.isEmpty_map])) (fun h => ?_) (fun h => ?_)
    · obtain ⟨x, hx, rfl⟩ := List.mem_map.mp hp
      exact TestsEB G' F' (eb_bool (ev_call (n := 2) hR (ev_glob (v := .ref 57) (p := .obj 57) (fun _ => rfl) (fun h => .obj 57 (by decide))) (fun _ => rfl) (evs_cons (P := R (.str rule)) (ev_name rfl) (evs_cons (P := R (.str x)) (ev_name rfl) evs_nil)) (udm_gt f w hr (hk x hx))))
    · obtain ⟨x, hx, rfl⟩ := List.mem_map.mp hp
      exact not_occ_atom fun l z => by cases z
    · rw [if_neg (by simpa using h)]
      exact xs_last (x_ret G (ev_name rfl))
    · rw [if_pos (by simpa using h)]
      refine xs_last (x_ret G ?_)
      refine EV.cast (ev_bin (P1 := R (pS (kept.filter fun one => !udmL one rule))) (P2 := R (.list [.str rule])) (P := R (.list ((kept.filter fun one => !udmL one rule).map PV.str ++ [PV.str rule])))
        (EV.cast (ev_comp (P1 := R (pS kept)) (ps := kept.map PV.str) (b := fun p => !udmL (decS p) rule) (F := fun p => p) (ρ' := [("rule", R (.str rule))]) hR.1 (ev_name rfl) (iter_list hR.1) (by rw [List.length_map]; omega) rfl
        (caps_cons caps_nil) (fun C => .inl rfl) (fun C p hp s' G' F' => ?_) (fun C p hp hb => ev_name rfl) (fun i p hp hb => ?_)) (by rw [filt_str _ (fun one => !udmL one rule)])) (ev_list (ps := [.str rule]) (evs_cons (ev_name rfl) evs_nil) (Nat.le_of_ble_eq_true rfl)) (fun s a b G ha hb => op_add_list G ha hb ?_)) (by unfold pS; rw [List.map_append]; rfl)
      · obtain ⟨x, hx, rfl⟩ := List.mem_map.mp hp
        exact TestsEB G' F' (eb_not (eb_bool (ev_call (n := 2) hR (ev_glob (v := .ref 57) (p := .obj 57) (fun _ => rfl) (fun h => .obj 57 (by decide))) (fun _ => rfl) (evs_cons (P := R (.str x)) (ev_name rfl) (evs_cons (P := R (.str rule)) (ev_name rfl) evs_nil)) (udm_gt f w (hk x hx) hr))))
      · obtain ⟨x, hx, rfl⟩ := List.mem_map.mp hp
        exact not_occ_atom fun l z => by cases z
      · rw [List.length_map]
        have := List.length_filter_le (fun one => !udmL one rule) kept
        simp
        omega
end Mine

/- C12 -/
open PySem PySem.Spec PySem.Calls PySem.W PyProof.Rows
set_option maxRecDepth 100000
namespace Mine
/-- the dict at a: to each of these texts a list of truths -/
def TB (w : World) (a : Addr) (kvs : List (Str × List Bool)) : SP where
  P h v := v = .ref a ∧ 149 ≤ a ∧ ∃ F, h.MapOf (PySem.strKind prg w) a F ∧ ∀ k bs, (k, bs) ∈ kvs → ∃ u, F k = some u ∧ Rp h u (pB bs)
  base := [a]
  mono := fun t k ⟨e, z, F, ⟨o, es, ep, eo, x, hd, ks, hf⟩, hv⟩ => ⟨e, z, F, ⟨o, es, ep, k.get t eo (fun ps q => by rw [q] at hd; cases hd), x, hd, ks, hf⟩, fun y bs hy => let ⟨u, e1, r⟩ := hv y bs hy; ⟨u, e1, Rp.kp k t r⟩⟩
  off := fun own h h' v hb k ⟨e, z, F, ⟨o, es, ep, eo, x, hd, ks, hf⟩, hv⟩ => ⟨e, z, F, ⟨o, es, ep, k.keep _ _ (fun q => hb _ q (by simp)) eo, x, hd, ks, hf⟩, fun y bs hy => let ⟨u, e1, r⟩ := hv y bs hy; ⟨u, e1, Rp.st k r⟩⟩
  inb := fun h v ⟨e, z, F, ⟨o, es, ep, eo, x, hd, ks, hf⟩, hv⟩ b hb => by rw [List.mem_singleton.mp hb]; exact ⟨o, eo⟩
section
variable {f : Bool} {w : World} {A : Around} {s : Shared} {a b : Value} {D : Addr} {kvs : List (Str × List Bool)}
theorem op_item_tb {value slice : PySem.Expr} {k : Str} {bs : List Bool} (ha : (TB w D kvs).P s.heap a) (hb : Rp s.heap b (.str k)) (hm : (k, bs) ∈ kvs) (hs : ∀ o i, subscripted slice false o i = operate [o, i] (getItem o i) := by intro _ _; rfl) : Ev f w A (subscriptTail value slice a b) (R (pB bs)).P s := fun E => by
  obtain ⟨rfl, z, FF, hF, hv⟩ := ha
  cases hb
  obtain ⟨u, e, r⟩ := hv k bs hm
  have hF' := hF
  obtain ⟨o, es, ep, eo, x, hd, ks, hf⟩ := hF'
  exact tail_any ⟨o, eo, x.1⟩ PySem.F.slot_dict_getitem.lookup (wpAny_getItem_of (strKind_is _ _ _ _) hF e ⟨r, .toks⟩) (hs _ _)
theorem op_item_bools {value slice : PySem.Expr} {k : Nat} {bs : List Bool} (ha : Rp s.heap a (pB bs)) (hb : Rp s.heap b (.int k)) (h : k < bs.length) (hz : k ≤ 1000000) (hs : ∀ o i, subscripted slice false o i = operate [o, i] (getItem o i) := by intro _ _; rfl) : Ev f w A (subscriptTail value slice a b) (R (.bool (bs[k]?.getD false))).P s :=
  op_item_list ha hb (by omega) (by omega) (by rw [Int.toNat_natCast, List.getElem?_map]; simp [h]) hs
end
theorem op_list_list {f : Bool} {w : World} {A : Around} {s : Shared} {a : Value} {ps : List PV} (G : Gd w s.heap) (ha : Rp s.heap a (.list ps)) (h : ps.length ≤ 1000000) : Ev f w A (call (.type "list") [a]) (R (.list ps)).P s := fun E => by
  cases ha with
  | list z l r =>
    obtain ⟨n, e⟩ := l
    have q := r.length
    refine call_list_seq (hsz := by rw [List.size_toArray, q, sizeLine_eq]; omega) _ (.inl rfl) e rfl rfl fun h' c' hk hD => ?_
    exact ⟨.list G.sz ⟨c', hD⟩ (Rps.kp (f := false) (.of_keeps hk) G.tb r), .of_keeps (tk := s.toks) hk⟩
theorem x1_sub {f : Bool} {w : World} {A : Around} {env : Env} {g : Heap} {mu : List Addr} {ρ ρ1 ρ2 : Ro} {st : Stmt} (h : X1 f w A env g mu ρ st (nextP env g ρ1)) (s : Sub ρ1 ρ2) : X1 f w A env g mu ρ st (nextP env g ρ2) :=
  fun s' K F E => wpAny_mono (h s' K F E) (fun fl s'' q => ⟨⟨q.1.1, q.1.2.sub s⟩, q.2⟩) fun _ _ e => e
def tabP (kvs : List (Str × List Bool)) (r : Str) (k : Nat) : Bool := (((kvs.lookup r).getD [])[k]?).getD false
def chosenP (single : List Str) (m : Nat) : List Str := ((List.range single.length).filter fun j => m / 2 ^ j % 2 == 1).map fun j => single[j]?.getD ""
def bareP (kvs : List (Str × List Bool)) (count : Nat) (chosen : List Str) : List Nat := (List.range count).filter fun k => (chosen.filter fun r => tabP kvs r k).isEmpty
def needStep (kvs : List (Str × List Bool)) (single : List Str) (count : Nat) (needed : List Str) (m : Nat) : List Str := if (bareP kvs count (chosenP single m)).isEmpty then needed.filter fun r => (chosenP single m).any (· == r) else needed
def needN (kvs : List (Str × List Bool)) (single : List Str) (count : Nat) (i : Nat) : List Str := (List.range i).foldl (needStep kvs single count) single
def neededP (kvs : List (Str × List Bool)) (single : List Str) (count : Nat) : List Str := needN kvs single count (2 ^ single.length)
theorem needN_succ {kvs : List (Str × List Bool)} {single : List Str} {count i : Nat} : needN kvs single count (i + 1) = needStep kvs single count (needN kvs single count i) i := by
  unfold needN
  rw [List.range_succ, List.foldl_append]
  rfl
theorem needN_len {kvs : List (Str × List Bool)} {single : List Str} {count i : Nat} : (needN kvs single count i).length ≤ single.length := by
  induction i with
  | zero => exact Nat.le_refl _
  | succ i ih =>
    rw [needN_succ]
    unfold needStep
    split
    · exact Nat.le_trans (List.length_filter_le _ _) ih
    · exact ih
def bCh (m : Nat) : PV → Bool
  | .int j => m / 2 ^ j.toNat % 2 == 1
  | _ => false
def fCh (single : List Str) : PV → PV
  | .int j => .str (single[j.toNat]?.getD "")
  | _ => .str ""
theorem chosen_map (single : List Str) (m : Nat) : (((upFrom 0 single.length).map PV.int).filter (bCh m)).map (fCh single) = (chosenP single m).map PV.str := by
  unfold upFrom chosenP
  generalize List.range single.length = l
  induction l with
  | nil => rfl
  | cons j l ih =>
    have e : bCh m (PV.int (0 + (j : Int))) = (m / 2 ^ j % 2 == 1) := by
      show (m / 2 ^ ((0 + (j : Int)).toNat) % 2 == 1) = _
      rw [show (0 + (j : Int)).toNat = j by omega]
    simp only [List.map_cons, List.filter_cons, e]
    cases (m / 2 ^ j % 2 == 1) with
    | true =>
      simp only [if_true, List.map_cons]
      rw [ih]
      congr 1
      show PV.str (single[(0 + (j : Int)).toNat]?.getD "") = _
      rw [show (0 + (j : Int)).toNat = j by omega]
    | false => simp only [Bool.false_eq_true, if_false]; exact ih
theorem filt_nat (l : List Nat) (b : Nat → Bool) (B : PV → Bool) (h : ∀ k : Nat, B (PV.int (0 + (k : Int))) = b k) : (((l.map fun i : Nat => (0 : Int) + (i : Nat)).map PV.int).filter B).map (fun p => p) = (l.filter b).map iN := by
  induction l with
  | nil => rfl
  | cons k l ih =>
    simp only [List.map_cons, List.filter_cons, h]
    cases b k with
    | true =>
      simp only [if_true, List.map_cons]
      rw [ih]
      congr 1
      show PV.int (0 + (k : Int)) = PV.int k
      rw [Int.zero_add]
    | false => simp only [Bool.false_eq_true, if_false]; exact ih
theorem chosen_mem {single : List Str} {m : Nat} {r : Str} (h : r ∈ chosenP single m) : r ∈ single := by
  obtain ⟨j, hj, rfl⟩ := List.mem_map.mp h
  have := List.mem_range.mp (List.mem_filter.mp hj).1
  simp [this]
theorem tabP_mem {kvs : List (Str × List Bool)} {r : Str} {bs : List Bool} (h : kvs.lookup r = some bs) : (r, bs) ∈ kvs := mem_of_lookup h
set_option maxHeartbeats 4000000 in
theorem needed_spec (f : Bool) (w : World) (single : List Str) (kvs : List (Str × List Bool)) (count : Nat) (a : Addr) (hs : single.length ≤ 6) (hc : count ≤ 100) (hk : ∀ r ∈ single, ∃ bs, kvs.lookup r = some bs ∧ bs.length = count) :
    SpecOfS f w 1 143 [R (pS single), TB w a kvs, R (iN count)] (R (pS (neededP kvs single count))) := by
  refine spec_defS (fd := fdOf w.params 143) (body := bodyOf w.params 143) (names := ["single", "table", "count"]) rfl rfl rfl ?_ rfl (by decide) (by rfl) ?_ (show (["chosen", "m", "table", "single"] : List Str).Nodup by decide)
  · intro s vs hl G
    match vs, hl with
    | [v, u, t], _ => exact BindsTo.of_eq rfl
  · intro A L g hR G
    have hu : A.units < cLine := by have := hR.2.2; omega
    refine xs_one (x_set (P := R (pS single)) G (ev_callt (id := "list") (ev_blt (v := .type "list") (fun _ => rfl) (by rfl) (fun h => .ty _)) (evs_cons (P := R (pS single)) (ev_name rfl) evs_nil) (fun s vs G h => ?_)) off_any (.inl rfl)) ?_
    · obtain ⟨a, rfl, ha⟩ := sp1 h
      exact op_list_list G ha (by rw [List.length_map]; omega)
    let ρs : Nat → Ro := fun i => [("needed", R (pS (needN kvs single count i))), ("single", R (pS single)), ("table", TB w a kvs), ("count", R (iN count))]
    have e64 : 2 ^ single.length ≤ 64 := Nat.le_trans (Nat.pow_le_pow_right (n := 2) (by decide) hs) (by decide)
    have hlen : ∀ {env : Env} {ρ : Ro} {A' : Around} {e : PySem.Expr} {pos : Pos}, True := trivial
    refine xs_one (ρ' := ρs (2 ^ single.length)) ?_ (xs_last (x_ret G (ev_name rfl)))
    have el : ((upFrom 0 (2 ^ single.length)).map PV.int).length = 2 ^ single.length := by simp [upFrom]
    rw [← el]
    refine x_for (ρs := ρs) (P1 := RR 0 ((2 ^ single.length : Nat) : Int)) (ps := (upFrom 0 (2 ^ single.length)).map PV.int) G ?_ (iter_rangeR hR.1 (by simp) (by decide) (by decide) (by omega)) (fun b hb => by cases hb) (sub_cons (sub_cons (sub_cons (sub_cons sub_nil)))) (fun p hp l => ?_) (fun i => bas_cons (bas_cons (bas_cons (bas_cons bas_nil (.inl rfl)) (.inr ⟨"table", rfl⟩)) (.inl rfl)) (.inl rfl)) (.inr ⟨rfl, rfl⟩) (fun i p hp => ?_)
    · refine ev_callt (id := "range") (ev_blt (v := .type "range") (fun _ => rfl) (by rfl) (fun h => .ty _)) (evs_cons (P := R (.int ((2 ^ single.length : Nat) : Int))) (EV.cast (ev_bin (P1 := R (.int 2)) (P2 := R (.int single.length)) (P := R (.int ((2 : Int) ^ ((single.length : Int)).toNat))) ev_cint (ev_callb (id := "len") (ev_blt (v := .builtin "len") (fun _ => rfl) (by rfl) (fun h => .bi _)) (evs_cons (P := R (pS single)) (ev_name rfl) evs_nil) (fun s vs G h => ?_)) (fun s a b _ ha hb => op_pow_int ha hb (by omega) (by omega) (by decide))) (by rw [Int.toNat_natCast]; simp)) evs_nil) (fun s vs G h => ?_)
      · obtain ⟨a, rfl, ha⟩ := sp1 h
        have := op_len_list (f := f) (w := w) (A := A) ha (by rw [List.length_map]; omega)
        rw [List.length_map] at this
        exact this
      · obtain ⟨a, rfl, ha⟩ := sp1 h
        exact op_range1 ha
    · obtain ⟨i, _, rfl⟩ := List.mem_map.mp hp
      intro z; cases z
    · have hi : i < 2 ^ single.length ∧ p = .int (0 + (i : Int)) := by
        unfold upFrom at hp
        rw [List.map_map, List.getElem?_map] at hp
        obtain ⟨j, hj, rfl⟩ := Option.map_eq_some_iff.mp hp
        have hlt : i < (List.range (2 ^ single.length)).length := by
          rcases Nat.lt_or_ge i (List.range (2 ^ single.length)).length with z | z
          · exact z
          · rw [List.getElem?_eq_none z] at hj; cases hj
        rw [List.length_range] at hlt
        rw [List.getElem?_range hlt] at hj
        cases hj
        exact ⟨hlt, rfl⟩
      obtain ⟨hilt, rfl⟩ := hi
      have hnl := needN_len (kvs := kvs) (single := single) (count := count) (i := i)
      have htz : ((0 : Int) + (i : Int)).toNat = i := by omega
      -- chosen
      refine xs_one (x_set (P := R (pS (chosenP single i))) G ?_ off_any (.inr ⟨rfl, rfl⟩)) ?_
      · refine EV.cast (ev_comp (P1 := RR 0 (single.length : Int)) (ps := (upFrom 0 single.length).map PV.int) (b := bCh i) (F := fCh single) (ρ' := [("single", R (pS single)), ("m", R (.int (0 + (i : Int))))]) hR.1 ?_ (iter_range hR.1 (by simp) (by decide) (by decide) (by omega)) (by simp [upFrom]; omega) rfl
          (caps_cons (caps_cons caps_nil)) (fun C => .inl rfl) (fun C p hp s' G' F' => ?_) (fun C p hp hb => ?_) (fun k p hp hb => ?_)) (by rw [chosen_map])
        · refine ev_callt (id := "range") (ev_blt (v := .type "range") (fun _ => rfl) (by rfl) (fun h => .ty _)) (evs_cons (P := R (.int single.length)) (ev_callb (id := "len") (ev_blt (v := .builtin "len") (fun _ => rfl) (by rfl) (fun h => .bi _)) (evs_cons (P := R (pS single)) (ev_name rfl) evs_nil) (fun s vs G h => ?_)) evs_nil) (fun s vs G h => ?_)
          · obtain ⟨a, rfl, ha⟩ := sp1 h
            have := op_len_list (f := f) (w := w) (A := A) ha (by rw [List.length_map]; omega)
            rw [List.length_map] at this
            exact this
          · obtain ⟨a, rfl, ha⟩ := sp1 h
            exact op_range1 ha
        · obtain ⟨j', hj', rfl⟩ := List.mem_map.mp hp
          obtain ⟨j, hj, rfl⟩ := List.mem_map.mp hj'
          have hj := List.mem_range.mp hj
          have hjz : ((0 : Int) + (j : Int)).toNat = j := by omega
          have hpj : 2 ^ j ≤ 64 := Nat.le_trans (Nat.pow_le_pow_right (n := 2) (by decide) (show j ≤ 6 by omega)) (by decide)
          have hpos := Nat.two_pow_pos j
          refine TestsEB G' F' (EB.cast (b := (((i / 2 ^ j % 2 : Nat) : Int) == 1)) (eb_cmp (P1 := R (.int ((i / 2 ^ j % 2 : Nat) : Int))) (P2 := R (.int 1)) ?_ ev_cint (fun s a c _ ha hc => op_eq_int ha hc)) ?_)
          · refine EV.cast (ev_bin (P1 := R (.int ((i / 2 ^ j : Nat) : Int))) (P2 := R (.int 2)) (P := R (.int (((i / 2 ^ j : Nat) : Int).fmod 2))) ?_ ev_cint (fun s a b _ ha hb => op_mod_int ha hb (by decide))) (by rw [Int.ofNat_fmod]; rfl)
            refine EV.cast (ev_bin (P1 := R (.int (0 + (i : Int)))) (P2 := R (.int ((2 ^ j : Nat) : Int))) (P := R (.int ((0 + (i : Int)).fdiv ((2 ^ j : Nat) : Int)))) (ev_name rfl) ?_ (fun s a b _ ha hb => op_div_int ha hb (by omega) (by omega))) (by rw [Int.ofNat_fdiv, Int.zero_add])
            refine EV.cast (ev_bin (P1 := R (.int 2)) (P2 := R (.int (0 + (j : Int)))) (P := R (.int ((2 : Int) ^ (0 + (j : Int)).toNat))) ev_cint (ev_name rfl) (fun s a b _ ha hb => op_pow_int ha hb (by omega) (by omega) (by decide))) (by rw [hjz]; simp)
          · show _ = (i / 2 ^ ((0 + (j : Int)).toNat) % 2 == 1)
            rw [hjz, Bool.eq_iff_iff, beq_iff_eq, beq_iff_eq]
            omega
        · obtain ⟨j', hj', rfl⟩ := List.mem_map.mp hp
          obtain ⟨j, hj, rfl⟩ := List.mem_map.mp hj'
          have hj := List.mem_range.mp hj
          have hjz : ((0 : Int) + (j : Int)).toNat = j := by omega
          refine ev_sub (P1 := R (pS single)) (P2 := R (.int (0 + (j : Int)))) (ev_name rfl) (ev_name rfl) (fun s a b _ ha hb => op_item_list ha hb (by omega) (by omega) ?_)
          show (single.map PV.str)[(0 + (j : Int)).toNat]? = some (PV.str (single[(0 + (j : Int)).toNat]?.getD ""))
          rw [hjz, List.getElem?_map]
          simp [hj]
        · obtain ⟨j', hj', rfl⟩ := List.mem_map.mp hp
          exact not_occ_atom fun l z => by cases z
      -- bare
      have hcl : (chosenP single i).length ≤ 6 := by
        unfold chosenP
        rw [List.length_map]
        refine Nat.le_trans (List.length_filter_le _ _) ?_
        rw [List.length_range]; exact hs
      let bB : PV → Bool := fun p => match p with
        | .int k => ((chosenP single i).filter fun r => tabP kvs r k.toNat).isEmpty
        | _ => false
      have ebare : ((((upFrom 0 count).map PV.int).filter bB).map fun p => p) = (bareP kvs count (chosenP single i)).map iN := by
        unfold upFrom bareP
        refine filt_nat _ (fun k => ((chosenP single i).filter fun r => tabP kvs r k).isEmpty) bB fun k => ?_
        show ((chosenP single i).filter fun r => tabP kvs r (0 + (k : Int)).toNat).isEmpty = _
        rw [show (0 + (k : Int)).toNat = k by omega]
      refine xs_one (ρ' := [("bare", R (pN (bareP kvs count (chosenP single i)))), ("chosen", R (pS (chosenP single i))), ("m", R (.int (0 + (i : Int)))), ("needed", R (pS (needN kvs single count i))), ("single", R (pS single)), ("table", TB w a kvs), ("count", R (iN count))]) ?_ ?_
      · unfold pN
        rw [← ebare]
        refine x_setc (P1 := RR 0 (count : Int)) (ps := (upFrom 0 count).map PV.int) (b := bB) (F := fun p => p) (ρ' := [("chosen", R (pS (chosenP single i))), ("table", TB w a kvs)]) G hR.1 ?_ (iter_range hR.1 (by simp) (by decide) (by decide) (by omega)) (by simp [upFrom]; omega) rfl
          (caps_cons (caps_cons caps_nil)) (fun C => .inr ⟨rfl, _, rfl, ?_⟩) (fun C p hp s' G' F' => ?_) (fun C p hp hb => ev_name rfl) (fun k p hp hb => ?_) rfl
        · exact ev_callt (id := "range") (ev_blt (v := .type "range") (fun _ => rfl) (by rfl) (fun h => .ty _)) (evs_cons (P := R (iN count)) (ev_name rfl) evs_nil) (fun s vs G h => by
            obtain ⟨a, rfl, ha⟩ := sp1 h
            exact op_range1 ha)
        · intro q
          simp only [List.mem_cons, Prod.mk.injEq, List.not_mem_nil, or_false] at q
          rcases q with q | q <;> exact absurd q.1 (by decide)
        · obtain ⟨j', hj', rfl⟩ := List.mem_map.mp hp
          obtain ⟨k, hk', rfl⟩ := List.mem_map.mp hj'
          have hkc := List.mem_range.mp hk'
          have hkz : ((0 : Int) + (k : Int)).toNat = k := by omega
          refine TestsEB G' F' (EB.cast (eb_cmp (P1 := R (pS ((chosenP single i).filter fun r => tabP kvs r k))) (P2 := R (.list [])) ?_ (ev_list (ps := []) evs_nil (Nat.zero_le _)) (fun s a c _ ha hc => op_eq_nil hu ha hc)) ?_)
          · refine EV.cast (ev_comp (P1 := R (pS (chosenP single i))) (ps := (chosenP single i).map PV.str) (b := fun p => tabP kvs (decS p) k) (F := fun p => p) (ρ' := [("table", TB w a kvs), ("k", R (.int (0 + (k : Int))))]) hR.1 (ev_name rfl) (iter_list hR.1) (by rw [List.length_map]; omega) rfl
              (caps_cons (caps_cons caps_nil)) (fun C => .inl rfl) (fun C p hp s' G' F' => ?_) (fun C p hp hb => ev_name rfl) (fun k p hp hb => ?_)) (by rw [filt_str _ (fun r => tabP kvs r k)])
            · obtain ⟨r, hr, rfl⟩ := List.mem_map.mp hp
              obtain ⟨bs, hbs, hbl⟩ := hk r (chosen_mem hr)
              refine TestsEB G' F' (eb_bool (EV.cast (p := .bool (bs[k]?.getD false)) (ev_sub (P1 := R (pB bs)) (P2 := R (.int (0 + (k : Int)))) (ev_sub (P1 := TB w a kvs) (P2 := R (.str r)) (ev_name rfl) (ev_name rfl) (fun s a b _ ha hb => op_item_tb ha hb (tabP_mem hbs))) (ev_name rfl) (fun s a b _ ha hb => op_item_bools ha (by rw [Int.zero_add] at hb; exact hb) (by omega) (by omega))) ?_))
              show _ = PV.bool (tabP kvs r k)
              unfold tabP
              rw [hbs]; rfl
            · obtain ⟨r, hr, rfl⟩ := List.mem_map.mp hp
              exact not_occ_atom fun l z => by cases z
          · show _ = ((chosenP single i).filter fun r => tabP kvs r (0 + (k : Int)).toNat).isEmpty
            rw [hkz, List.isEmpty_map]
        · obtain ⟨j', hj', rfl⟩ := List.mem_map.mp hp
          exact not_occ_atom fun l z => by cases z
      -- the cut
      refine xs_one (ρ' := ρs (i + 1)) (x_if (b := (bareP kvs count (chosenP single i)).isEmpty) G (EB.cast (eb_cmp (P1 := R (pN (bareP kvs count (chosenP single i)))) (P2 := R (.list [])) (ev_name rfl) (ev_list (ps := []) evs_nil (Nat.zero_le _)) (fun s a c _ ha hc => op_eq_nil hu ha hc)) (by rw [List.isEmpty_map])) (fun hb => ?_) (fun hb => ?_)) (xs_nil fun h F => ⟨rfl, F⟩)
      · have en : needN kvs single count (i + 1) = (needN kvs single count i).filter fun r => (chosenP single i).any (· == r) := by
          rw [needN_succ]; unfold needStep; rw [if_pos hb]
        refine xs_one (ρ' := [("needed", R (pS (needN kvs single count (i + 1)))), ("single", R (pS single)), ("table", TB w a kvs), ("count", R (iN count))]) ?_ (xs_sub (sub_cons (sub_cons (sub_cons (sub_cons sub_nil)))))
        rw [en]
        unfold pS
        rw [← filt_str]
        refine x1_sub (x_setc (P1 := R (pS (needN kvs single count i))) (ps := (needN kvs single count i).map PV.str) (b := fun p => (chosenP single i).any (· == decS p)) (F := fun p => p) (ρ' := [("chosen", R (pS (chosenP single i)))]) (mu := []) G hR.1 (ev_name rfl) (iter_list hR.1) (by rw [List.length_map]; omega) rfl
          (caps_cons caps_nil) (fun C => .inl rfl) (fun C p hp s' G' F' => ?_) (fun C p hp hb => ev_name rfl) (fun k p hp hb => ?_) rfl) (sub_cons (sub_cons (sub_cons (sub_cons sub_nil))))
        · obtain ⟨r, hr, rfl⟩ := List.mem_map.mp hp
          exact TestsEB G' F' (eb_cmp (P1 := R (.str r)) (P2 := R (pS (chosenP single i))) (ev_name rfl) (ev_name rfl) (fun s a c _ ha hc => op_in_strs ha hc))
        · obtain ⟨r, hr, rfl⟩ := List.mem_map.mp hp
          exact not_occ_atom fun l z => by cases z
      · have en : needN kvs single count (i + 1) = needN kvs single count i := by
          rw [needN_succ]; unfold needStep; rw [if_neg (by rw [hb]; exact Bool.false_ne_true)]
        refine xs_sub (sub_cons (sub_cons (sub_cons (sub_cons sub_nil))) (by rw [en]; rfl))
end Mine

/- C13 -/
open PySem PySem.Spec PySem.Calls PySem.W PyProof.Rows
set_option maxRecDepth 100000
namespace Mine
def spParts (x : Str) : List Str := Builtin.Str.partsBetween x (Builtin.Str.occurrences x "." 0 x.length (limitOf x 1)) ("." : Str).length
def rest2 (x : Str) : Str := (spParts x)[1]?.getD ""
def spOk (x : Str) : Bool := !(decide (x.length < ("." : Str).length) || decide (Builtin.Str.strKind x < Builtin.Str.strKind ".")) && !(Builtin.Str.occurrences x "." 0 x.length (limitOf x 1)).isEmpty && Nat.ble x.length 1000 && (spParts x).length == 2 && Nat.ble (rest2 x).length 100
theorem strsFrom_rps {h : Heap} : ∀ (k : Nat) (xs : List Str), Rps h (strsFrom k xs) (xs.map .str)
  | _, [] => .nil
  | k, x :: xs => .cons (.str x k) (strsFrom_rps (k + 1) xs)
theorem not_occ_flat {as bs : List PV} (hl : as.length ≠ bs.length) (hb : ∀ p ∈ bs, ∀ l, p ≠ .list l) : ¬ Occ (.list as) (.list bs) := fun o => by
  cases o with
  | here => exact hl rfl
  | deep o hm => exact not_occ_atom (hb _ hm) o
section
variable {f : Bool} {w : World} {A : Around} {env : Env} {ρ : Ro} {s : Shared} {a b c : Value} {x : Str}
theorem op_split1 (G : Gd w s.heap) (ha : Rp s.heap a (.str x)) (hb : Rp s.heap b (.str ".")) (hc : Rp s.heap c (.int 1)) (hok : spOk x = true) : Ev f w A (call (.builtin "str.split") [a, b, c]) (R (pS (spParts x))).P s := fun E => by
  cases ha; cases hb; cases hc
  rename_i t u v
  unfold spOk at hok
  simp only [Bool.and_eq_true, Bool.not_eq_true'] at hok
  obtain ⟨⟨⟨⟨h1, h2⟩, h3⟩, h4⟩, h5⟩ := hok
  have h4 : (spParts x).length = 2 := beq_iff_eq.mp h4
  have hz := Nat.le_of_ble_eq_true h3
  refine call_meets F.slot_str_split (typeIs_str s x t) F.entry_str_split (F.args_str_split_3 _ _ _) (meets_str_split_sep_max x "." 1 t u v (by decide) h1 (by decide) h2 (by rw [sizeLine_eq]; omega) (by show (spParts x).length ≤ _; rw [h4, sizeLine_eq]; decide)) ?_
  have k : Kp f s.heap (s.heap.push { cls := .type "list", data := .seq (strsFrom s.toks (spParts x)).toArray }) := .of_keeps fun _ _ e => Heap.get?_push_of_some _ e
  exact ⟨.list G.sz ⟨0, Heap.get?_push_size _ rfl⟩ (strsFrom_rps _ _), .push⟩
/-- a call of a function of the text's, its end as one likes -/
theorem run_callK {fe : PySem.Expr} {e0 : PySem.Expr} {es : List PySem.Expr} {n : Addr} {Ps : List SP} {pos : Pos} {Q : Value → Shared → Prop} {E : Value → Shared → Prop} (G : Gd w s.heap) (F : FrV env s.heap ρ) (hf : EV f w A env ρ fe (R (.obj n))) (hk : ∀ w : World, keepIn (KK w.params) (.ref n) = true) (h : EVs f w A env ρ (e0 :: es) Ps)
    (S : ∀ s₁ vs, Gd w s₁.heap → SPs s₁.heap vs Ps → Kps f s s₁ → wpAny (model prg w) A (call (.ref n) vs) Q E s₁)
    (hc : ∀ k, eval (.Call fe (e0 :: es) k pos) env = (do callWith pos (← eval fe env) [] (backTo pos (starEach (e0 :: es) env)) (backToKw pos (keywordEach k env))) := by intro _; rfl)
    (he : starEach (e0 :: es) env = (false, eval e0 env) :: starEach es env := by rfl) (hplain : (backTo pos (starEach es env)).any (·.1) = false := by rfl) :
    wpAny (model prg w) A (eval (.Call fe (e0 :: es) [] pos) env) Q E s := by
  rw [hc]
  refine wpAny_bind (wpAny_mono (hf s G F E) (fun v s₁ h₁ => ?_) fun _ _ e => e)
  have r : Rp s₁.heap v (.obj n) := h₁.1
  have G₁ := G.kp h₁.2.kp
  cases r
  refine callWith_K (h₀ := s₁.heap) G₁.K (hk w) (wpAny_mono (h s₁ pos G₁ (F.kp h₁.2.kp G.tb) E) (fun vs s₂ h₂ => ?_) fun _ _ e => e) he hplain
  have G₂ := G₁.kp h₂.2.kp
  exact ⟨G₂.K, S s₂ ([] ++ vs) G₂ h₂.1 (h₁.2.trans h₂.2)⟩
end
/-- a contract that holds while the table of _translate's code is empty -/
def Spec83 (w : World) (n : Nat) (a : Addr) (args : List PV) (r : PV) : Prop :=
  ∀ A s vs, Room n A → Gd w s.heap → s.heap.get? 83 = some (tabObj #[]) → Rps s.heap vs args → Ev true w A (call (.ref a) vs) (fun h v => Rp h v r) s
def ruleAt (hosts : List Str) (t l g : List Bool) (k : Nat) : Str := if (t[k]?.getD false || l[k]?.getD false) && !(g[k]?.getD false) then "." ++ rest2 (hosts[k]?.getD "") else hosts[k]?.getD ""
def rulesP (hosts : List Str) (t l g : List Bool) : List Str := (List.range hosts.length).map (ruleAt hosts t l g)
def rulesN (hosts : List Str) (t l g : List Bool) (k : Nat) : List Str := (List.range k).map (ruleAt hosts t l g)
theorem rulesN_succ {hosts : List Str} {t l g : List Bool} {k : Nat} : rulesN hosts t l g (k + 1) = rulesN hosts t l g k ++ [ruleAt hosts t l g k] := by
  unfold rulesN; rw [List.range_succ, List.map_append]; rfl
set_option maxHeartbeats 4000000 in
theorem rules_rest {f : Bool} {w : World} {A : Around} {g : Heap} {L : Addr} {hosts : List Str} {t l gg : List Bool} {n : Nat} (hR : Room n A) (G : Gd w g) (hh : hosts.length ≤ 10) (ht : t.length = hosts.length) (hl : l.length = hosts.length) (hg : gg.length = hosts.length)
    (hok : ∀ k, k < hosts.length → ((t[k]?.getD false || l[k]?.getD false) && !(gg[k]?.getD false)) = true → spOk (hosts[k]?.getD "") = true) :
    XS f w A (callEnvC (fdOf w.params 126) L 126) g [] [("hosts", R (pS hosts)), ("three", R (pB t)), ("local", R (pB l)), ("figure", R (pB gg))] ((bodyOf w.params 126).drop 3) (retP (R (pS (rulesP hosts t l gg)))) := by
  refine xs_newlist G (.inl rfl) fun D hD => ?_
  let ρs : Nat → Ro := fun k => [("rules", At D ((rulesN hosts t l gg k).map PV.str)), ("hosts", R (pS hosts)), ("three", R (pB t)), ("local", R (pB l)), ("figure", R (pB gg))]
  have el : ((upFrom 0 hosts.length).map PV.int).length = hosts.length := by simp [upFrom]
  refine xs_one (ρ' := ρs hosts.length) ?_ (xs_last (x_ret G (ev_at (ev_name rfl))))
  rw [← el]
  refine x_for (ρs := ρs) (P1 := RR 0 (hosts.length : Int)) (ps := (upFrom 0 hosts.length).map PV.int) G ?_ (iter_rangeR hR.1 (by simp) (by decide) (by decide) (by omega)) (fun b hb => ⟨"rules", [], by rw [List.mem_singleton.mp hb]; rfl⟩) (sub_cons (sub_cons (sub_cons (sub_cons (sub_cons sub_nil))))) (fun p hp l => ?_) (fun i => bas_cons (bas_cons (bas_cons (bas_cons (bas_cons bas_nil (.inl rfl)) (.inl rfl)) (.inl rfl)) (.inl rfl)) (.inl rfl)) (.inl rfl) (fun k p hp => ?_)
  · refine ev_callt (id := "range") (ev_blt (v := .type "range") (fun _ => rfl) (by rfl) (fun h => .ty _)) (evs_cons (P := R (.int hosts.length)) (ev_callb (id := "len") (ev_blt (v := .builtin "len") (fun _ => rfl) (by rfl) (fun h => .bi _)) (evs_cons (P := R (pS hosts)) (ev_name rfl) evs_nil) (fun s vs G h => ?_)) evs_nil) (fun s vs G h => ?_)
    · obtain ⟨a, rfl, ha⟩ := sp1 h
      have := op_len_list (f := f) (w := w) (A := A) ha (by rw [List.length_map]; omega)
      rw [List.length_map] at this
      exact this
    · obtain ⟨a, rfl, ha⟩ := sp1 h
      exact op_range1 ha
  · obtain ⟨i, _, rfl⟩ := List.mem_map.mp hp
    intro z; cases z
  · have hi : k < hosts.length ∧ p = .int (0 + (k : Int)) := by
      unfold upFrom at hp
      rw [List.map_map, List.getElem?_map] at hp
      obtain ⟨j, hj, rfl⟩ := Option.map_eq_some_iff.mp hp
      have hlt : k < (List.range hosts.length).length := by
        rcases Nat.lt_or_ge k (List.range hosts.length).length with z | z
        · exact z
        · rw [List.getElem?_eq_none z] at hj; cases hj
      rw [List.length_range] at hlt
      rw [List.getElem?_range hlt] at hj
      cases hj
      exact ⟨hlt, rfl⟩
    obtain ⟨hk, rfl⟩ := hi
    have kint : ∀ {s : Shared} {b : Value}, (R (.int (0 + (k : Int)))).P s.heap b → Rp s.heap b (.int k) := fun hb => by rw [Int.zero_add] at hb; exact hb
    have hlen : (rulesN hosts t l gg k).length = k := by unfold rulesN; simp
    have hhost : (hosts.map PV.str)[(0 + (k : Int)).toNat]? = some (.str (hosts[k]?.getD "")) := by
      rw [show (0 + (k : Int)).toNat = k by omega, List.getElem?_map]
      simp [hk]
    have okeep : ∀ bs : List Bool, bs.length = hosts.length → Off1 D ((rulesN hosts t l gg k).map PV.str) (R (pB bs)) := fun bs hb => off1_R (not_occ_flat (by rw [List.length_map, List.length_map, hlen, hb]; omega) (fun p hp l z => by
      obtain ⟨x, _, rfl⟩ := List.mem_map.mp hp
      cases z))
    have okeepS : Off1 D ((rulesN hosts t l gg k).map PV.str) (R (pS hosts)) := off1_R (not_occ_flat (by rw [List.length_map, List.length_map, hlen]; omega) (fun p hp l z => by
      obtain ⟨x, _, rfl⟩ := List.mem_map.mp hp
      cases z))
    have estep : (rulesN hosts t l gg (k + 1)).map PV.str = (rulesN hosts t l gg k).map PV.str ++ [PV.str (ruleAt hosts t l gg k)] := by
      rw [rulesN_succ, List.map_append]; rfl
    refine xs_one (ρ' := ρs (k + 1)) (x_if (b := (t[k]?.getD false || l[k]?.getD false) && !(gg[k]?.getD false)) G ?_ (fun hc => ?_) (fun hc => ?_)) (xs_nil fun h F => ⟨rfl, F⟩)
    · refine eb_and2 (eb_or2 (eb_bool (ev_sub (P1 := R (pB t)) (P2 := R (.int (0 + (k : Int)))) (ev_name rfl) (ev_name rfl) (fun s a b _ ha hb => op_item_bools ha (kint hb) (by omega) (by omega)))) (fun _ => eb_bool (ev_sub (P1 := R (pB l)) (P2 := R (.int (0 + (k : Int)))) (ev_name rfl) (ev_name rfl) (fun s a b _ ha hb => op_item_bools ha (kint hb) (by omega) (by omega))))) (fun _ => eb_not (eb_bool (ev_sub (P1 := R (pB gg)) (P2 := R (.int (0 + (k : Int)))) (ev_name rfl) (ev_name rfl) (fun s a b _ ha hb => op_item_bools ha (kint hb) (by omega) (by omega)))))
    · have hsp := hok k hk hc
      have hr2 : (rest2 (hosts[k]?.getD "")).length ≤ 100 := by
        unfold spOk at hsp
        simp only [Bool.and_eq_true] at hsp
        exact Nat.le_of_ble_eq_true hsp.2
      have hp2 : (spParts (hosts[k]?.getD "")).length = 2 := by
        unfold spOk at hsp
        simp only [Bool.and_eq_true] at hsp
        exact beq_iff_eq.mp hsp.1.2
      have er : ruleAt hosts t l gg k = "." ++ rest2 (hosts[k]?.getD "") := by unfold ruleAt; rw [if_pos hc]
      rw [er] at estep
      refine xs_one (x_append (x := "rules") (p := .str ("." ++ rest2 (hosts[k]?.getD ""))) (ρ' := [("hosts", R (pS hosts)), ("three", R (pB t)), ("local", R (pB l)), ("figure", R (pB gg))]) G hD (.head _)
        (ev_bin (P1 := R (.str ".")) (P2 := R (.str (rest2 (hosts[k]?.getD "")))) ev_cstr (ev_sub (P1 := R (pS (spParts (hosts[k]?.getD "")))) (P2 := R (.int 1)) (ev_meth (P1 := R (.str (hosts[k]?.getD ""))) (ev_sub (P1 := R (pS hosts)) (P2 := R (.int (0 + (k : Int)))) (ev_name rfl) (ev_name rfl) (fun s a b _ ha hb => op_item_list ha hb (by omega) (by omega) hhost)) (gm_str F.slot_str_split F.type_str_split) (evs_cons (P := R (.str ".")) ev_cstr (evs_cons (P := R (.int 1)) ev_cint evs_nil)) (fun s v vs G r hv => ?_)) ev_cint (fun s a b _ ha hb => op_item_list ha hb (by decide) (by decide) ?_)) (fun s a c _ ha hc => op_add_str ha hc (by show 1 + _ ≤ _; omega)))
        rfl (not_occ_atom fun l q => by cases q) (by rw [List.length_map, hlen]; omega) (keep1_cons okeepS (keep1_cons (okeep t ht) (keep1_cons (okeep l hl) (keep1_cons (okeep gg hg) keep1_nil))))) ?_
      · obtain ⟨u, v', rfl, hu, hv'⟩ := sp2 hv
        exact op_split1 G r hu hv' hsp
      · show ((spParts (hosts[k]?.getD "")).map PV.str)[1]? = _
        rw [List.getElem?_map]
        unfold rest2
        have : 1 < (spParts (hosts[k]?.getD "")).length := by omega
        simp [this]
      · exact xs_sub (sub_cons (sub_cons (sub_cons (sub_cons (sub_cons sub_nil)))) (by rw [estep]; rfl))
    · have er : ruleAt hosts t l gg k = hosts[k]?.getD "" := by unfold ruleAt; rw [if_neg (by rw [hc]; exact Bool.false_ne_true)]
      rw [er] at estep
      refine xs_one (x_append (x := "rules") (p := .str (hosts[k]?.getD "")) (ρ' := [("hosts", R (pS hosts)), ("three", R (pB t)), ("local", R (pB l)), ("figure", R (pB gg))]) G hD (.head _)
        (ev_sub (P1 := R (pS hosts)) (P2 := R (.int (0 + (k : Int)))) (ev_name rfl) (ev_name rfl) (fun s a b _ ha hb => op_item_list ha hb (by omega) (by omega) hhost))
        rfl (not_occ_atom fun l q => by cases q) (by rw [List.length_map, hlen]; omega) (keep1_cons okeepS (keep1_cons (okeep t ht) (keep1_cons (okeep l hl) (keep1_cons (okeep gg hg) keep1_nil))))) ?_
      exact xs_sub (sub_cons (sub_cons (sub_cons (sub_cons (sub_cons sub_nil)))) (by rw [estep]; rfl))
set_option maxHeartbeats 4000000 in
theorem rules_spec (w : World) (hosts : List Str) (rows : List (List (List Str))) (t l g : List Bool) (hh : hosts.length ≤ 10) (ht : t.length = hosts.length) (hl : l.length = hosts.length) (hg : g.length = hosts.length)
    (h1 : SpecOf false w 5 119 [.str "*.*.*", .list (rows.map pL)] (pB t)) (h2 : SpecOf false w 5 119 [.str "*.local", .list (rows.map pL)] (pB l)) (h3 : Spec83 w 5 119 [.str "*.[0-9]", .list (rows.map pL)] (pB g))
    (hok : ∀ k, k < hosts.length → ((t[k]?.getD false || l[k]?.getD false) && !(g[k]?.getD false)) = true → spOk (hosts[k]?.getD "") = true) : Spec83 w 6 126 [pS hosts, .list (rows.map pL)] (pS (rulesP hosts t l g)) := by
  intro A s vs hR G h83 hvs
  refine spec_defAt (f := true) (n := 5) (s := s) (args := [R (pS hosts), R (.list (rows.map pL))]) (res := R (pS (rulesP hosts t l g))) (fd := fdOf w.params 126) (body := bodyOf w.params 126) (names := ["hosts", "rows"]) rfl rfl rfl ?_ rfl (by decide) (by rfl) ?_ (show ([] : List Str).Nodup from List.nodup_nil) rfl rfl rfl rfl A vs hR G hvs.sps
  · intro vs hl G
    match vs, hl with
    | [v, u], _ => exact BindsTo.of_eq rfl
  · intro A L hR G s₁ K₁ F₁ E
    have taken : ∀ {f : Bool} {ρ : Ro} {pos : Pos}, EV f w A (callEnvC (fdOf w.params 126) L 126) ρ (.Name "_law_taken" pos) (R (.obj 119)) := ev_glob (v := .ref 119) (p := .obj 119) (fun _ => rfl) (fun h => .obj 119 (by decide))
    refine wpAny_execs_cons (wpAny_mono (Q := fun fl s' => nextP (callEnvC (fdOf w.params 126) L 126) s.heap [("three", R (pB t)), ("hosts", R (pS hosts)), ("rows", R (.list (rows.map pL)))] fl s'.heap ∧ Kp false s.heap s'.heap ∧ RO false (ownOf (callEnvC (fdOf w.params 126) L 126) ++ []) s₁ s') ?_ (fun fl s₂ q => ?_) fun _ _ e => e)
    · exact x_set G (ev_call (n := 5) hR taken (fun _ => rfl) (evs_cons (P := R (.str "*.*.*")) ev_cstr (evs_cons (P := R (.list (rows.map pL))) (ev_name rfl) evs_nil)) h1) off_any (.inl rfl) rfl rfl s₁ K₁ F₁ E
    obtain ⟨⟨rfl, F₂⟩, K₂, R₂⟩ := q
    refine wpAny_execs_cons (wpAny_mono (Q := fun fl s' => nextP (callEnvC (fdOf w.params 126) L 126) s.heap [("local", R (pB l)), ("three", R (pB t)), ("hosts", R (pS hosts)), ("rows", R (.list (rows.map pL)))] fl s'.heap ∧ Kp false s.heap s'.heap ∧ RO false (ownOf (callEnvC (fdOf w.params 126) L 126) ++ []) s₂ s') ?_ (fun fl s₃ q => ?_) fun _ _ e => e)
    · exact x_set G (ev_call (n := 5) hR taken (fun _ => rfl) (evs_cons (P := R (.str "*.local")) ev_cstr (evs_cons (P := R (.list (rows.map pL))) (ev_name rfl) evs_nil)) h2) off_any (.inl rfl) rfl rfl s₂ K₂ F₂ E
    obtain ⟨⟨rfl, F₃⟩, K₃, R₃⟩ := q
    have G₃ := G.kp K₃
    have h83₃ : s₃.heap.get? 83 = some (tabObj #[]) := K₃.keep 83 _ (by decide) (fun q => by cases q) h83
    refine wpAny_execs_cons (wpAny_Assign_Name (run_callK (f := false) (n := 119) G₃ F₃.vars taken (fun _ => rfl) (evs_cons (P := R (.str "*.[0-9]")) ev_cstr (evs_cons (P := R (.list (rows.map pL))) (ev_name rfl) evs_nil)) fun s₄ vs G₄ hvs k₄ => ?_) rfl)
    have h83₄ := k₄.kp.keep 83 _ (by decide) (fun q => by cases q) h83₃
    refine wpAny_mono (h3 A s₄ vs hR G₄ h83₄ (SPs.rps (ps := [.str "*.[0-9]", .list (rows.map pL)]) hvs) E) (fun v s₅ hv => ?_) fun _ _ e => e
    obtain ⟨hv, k₅⟩ := hv
    have K₄ := K₃.trans k₄.kp
    have F₄ := F₃.kp k₄.kp G₃.tb
    have K₅ : Kp true s.heap s₅.heap := K₄.up.trans k₅.kp
    have F₅ := F₄.kp k₅.kp G₄.tb
    refine store_ (f := true) (P := R (pB g)) F₅ K₅ hv off_R rfl (.inl rfl) fun s₆ K₆ F₆ R₆ _ => ?_
    have ROw : ∀ {own : List Addr} {a b : Shared}, RO false own a b → RO true own a b := fun x => ⟨x.ex, fun b o n1 n2 _ e => x.keep b o n1 n2 (fun q => by cases q) e⟩
    refine wpAny_mono (rules_rest (f := true) (g := s.heap) hR G hh ht hl hg hok s₆ K₆ (F₆.sub (sub_cons (sub_cons (sub_cons (sub_cons sub_nil))))) E) (fun fl s₇ q => ⟨q.1, q.2.1, ?_⟩) fun _ _ e => e
    exact (((((ROw R₂).trans (ROw R₃)).trans (ROw (.of k₄))).trans (.of k₅)).trans R₆.left).trans q.2.2
end Mine

/- L10 -/
open PySem PySem.Spec PySem.Calls PySem.W PyProof.Rows
namespace Mine
theorem valueAt_stored (kvs : List (Str × Value)) (k r : Str) (v : Value) : valueAt (stored kvs k v) r = if r = k then some v else valueAt kvs r := by
  unfold stored
  split
  · rename_i h
    unfold valueAt
    induction kvs with
    | nil => simp at h
    | cons kv l ih =>
      simp only [List.map_cons, List.find?_cons]
      by_cases hk : kv.1 = k
      · simp only [hk, if_true]
        by_cases hr : r = k
        · subst hr; simp
        · have h1 : (decide (k = r)) = false := by simpa using fun q : k = r => hr q.symm
          rw [h1, if_neg hr]
          simp only
          clear ih h
          induction l with
          | nil => rfl
          | cons kv2 l ih2 =>
            simp only [List.map_cons, List.find?_cons]
            by_cases hk2 : kv2.1 = k
            · simp only [hk2, if_true, h1]; exact ih2
            · simp only [hk2, if_false]
              cases decide (kv2.1 = r) with
              | true => rfl
              | false => exact ih2
      · simp only [hk, if_false]
        have h' : (l.any fun kv => decide (kv.1 = k)) = true := by simpa [hk] using h
        by_cases hr : kv.1 = r
        · have : r ≠ k := fun q => hk (hr.trans q)
          simp [hr, this]
        · simp only [hr, decide_false]
          exact ih h'
  · rename_i h
    unfold valueAt
    rw [List.find?_append]
    by_cases hr : r = k
    · subst hr
      have : kvs.find? (fun kv => decide (kv.1 = r)) = none := by
        rw [List.find?_eq_none]
        intro x hx
        simp only [List.any_eq_true, not_exists, not_and] at h
        simpa using h x hx
      simp [this]
    · have h1 : (decide (k = r)) = false := by simpa using fun q : k = r => hr q.symm
      simp [h1, hr]

section
variable {f : Bool} {w : World} {A : Around} {env : Env} {ρ ρ' : Ro}
/-- the dict's filling -/
def DInv (w : World) (h : Heap) (D : Addr) (keys : List Str) (V : Str → List Bool) (i : Nat) : Prop :=
  ∃ kvs : List (Str × Value), h.DictOf (PySem.strKind prg w) D kvs ∧ kvs.length ≤ i ∧ ∀ r ∈ keys.take i, ∃ u, valueAt kvs r = some u ∧ Rp h u (pB (V r))

theorem comp_loopD {kx vx iter : PySem.Expr} {x : Str} {px : Pos} {scope : Scope} {pos : Pos} {I D : Addr} {fp wr : List Addr} {P : Nat → Value → Prop} {St : Nat → Heap → Prop} {g : Heap} {env : Env} {ρ : Ro} {keys : List Str} {V : Str → List Bool} {s₁ s : Shared} {R' : Result → Shared → Prop}
    (G : Gd w g) (S : Src f w A g s₁ I (keys.map .str) fp wr P St) (hst : St 0 s.heap) (K : Kp f g s.heap) (hD : s.heap.DictOf (PySem.strKind prg w) D []) (hC : ∃ m, s.heap.Ns env.locals m) (hk : env.scope.kind = .function)
    (hx : env.kindOf x = some .local)
    (hDg : New g D) (hCg : New g env.locals) (hDC : D ≠ env.locals) (hDf : D ∉ fp) (hCf : env.locals ∉ fp) (hsz : keys.length ≤ 1000000)
    (hρ : FrV env g ρ)
    (hkx : ∀ r ∈ keys, EV f w A env ((x, R (.str r)) :: ρ) kx (R (.str r)))
    (hvx : ∀ r ∈ keys, EV f w A env ((x, R (.str r)) :: ρ) vx (R (pB (V r))))
    (hR : ∀ s', Rest s s' → Kp f g s'.heap → DInv w s'.heap D keys V keys.length → (∃ m, s'.heap.Ns env.locals m) → R' (.ok .next) s') :
    codeAny (model prg w) A (.compLoop (.DictComp kx vx [⟨.Name x px, iter, [], 0⟩] scope pos) 0 (.ref I) (.ref D) env) R' s := by
  have wfp : ∀ b ∈ wr, b ∈ fp := S.W.sub
  have hlenk : (keys.map PV.str).length = keys.length := List.length_map ..
  have one : ∀ (a : Addr) (h h' : Heap), New g a → Kp f g h → (∀ q, ¬ h.CodeRec (.ref a) q) → Heap.SameBut a h h' → Kp f g h' := fun a h h' ha k hc hs =>
    Kp.but (wr := [a]) k G.tb (fun b o hb e => hs.extBut b o (fun q => hb (by simp [q])) e) (fun b hb => by rw [List.mem_singleton.mp hb]; exact ha.1) (fun b hb => by rw [List.mem_singleton.mp hb]; exact ha.2) (fun b hb => by rw [List.mem_singleton.mp hb]; exact hc)
  have dfr : ∀ {h : Heap} {kvs : List (Str × Value)}, h.DictOf (PySem.strKind prg w) D kvs → ∃ o, h.get? D = some o ∧ frameish o := fun ⟨o, es, ep, e, _, hd, _⟩ => ⟨o, e, .inl ⟨_, _, hd⟩⟩
  -- the dict through a change elsewhere
  have dkeep : ∀ (h h' : Heap) (i : Nat) (wr' : List Addr), DInv w h D keys V i → D ∉ wr' → (∀ b o, b ∉ wr' → h.get? b = some o → h'.get? b = some o) → (∀ b ∈ wr', ∀ vs, ¬ h.PlainList b vs) → DInv w h' D keys V i := fun h h' i wr' ⟨kvs, d, l, v⟩ n k c =>
    ⟨kvs, d.at fun o e => k _ _ n e, l, fun r hr => let ⟨u, e, p⟩ := v r hr; ⟨u, e, Rp.but k c p⟩⟩
  refine codeAny_compLoop_testsD
    (fun k s' => ∃ i, Rest s s' ∧ Kp f g s'.heap ∧ St i s'.heap ∧ DInv w s'.heap D keys V i ∧ (∃ m, s'.heap.Ns env.locals m) ∧ i ≤ keys.length ∧ k = keys.length + 1 - i) ?_ (keys.length + 1)
    ⟨0, .refl _, K, hst, ⟨[], hD, Nat.le_refl _, fun r hr => by simp at hr⟩, hC, Nat.zero_le _, rfl⟩
  rintro k s' ⟨i, R1, K1, st1, D1, C1, hi, rfl⟩
  rcases Nat.lt_or_ge i keys.length with hlt | hge
  · refine S.W.item i s' _ _ (by rw [hlenk]; exact hlt) st1 fun v h₁ tk₁ hPv st₂ k₂ => ?_
    have nc := S.nc i s'.heap st1
    have K2 : Kp f g h₁ := Kp.but K1 G.tb k₂ S.new (fun b hb => S.nt b (wfp b hb)) (fun b hb => (nc b hb).1)
    have D2 := dkeep _ _ i wr D1 (fun q => hDf (wfp _ q)) k₂ (fun b hb => (nc b hb).2)
    obtain ⟨m1, n1⟩ := C1
    have n2 : h₁.Ns env.locals m1 := n1.at' fun o e => k₂ _ o (fun q => hCf (wfp _ q)) e
    obtain ⟨p, hp, rp⟩ := S.it i v h₁ (by rw [hlenk]; exact hlt) (fun _ _ _ r => Rp.kp K2 G.tb r) hPv
    rw [List.getElem?_map] at hp
    obtain ⟨r, hr, rfl⟩ := Option.map_eq_some_iff.mp hp
    have hmem : r ∈ keys := List.mem_of_getElem? hr
    have R2 : Rest s' { s' with heap := h₁, toks := tk₁ } := .of
    refine wpAny_assign_Name (wpAny_storeName_local hx n2 (fun h₂ n3 hs => ?_) (by rw [hk]; rfl))
    have K3 := one _ _ _ hCg K2 (noCode (Heap.Ns.frameish n2)).1 hs
    have keep : ∀ b o, b ∉ [env.locals] → h₁.get? b = some o → h₂.get? b = some o := fun b o hb e => hs.extBut b o (fun q => hb (by simp [q])) e
    have ncl : ∀ b ∈ [env.locals], ∀ vs, ¬ h₁.PlainList b vs := fun b hb => by rw [List.mem_singleton.mp hb]; exact (noCode (Heap.Ns.frameish n2)).2
    have D3 := dkeep _ _ i [env.locals] D2 (fun q => hDC (List.mem_singleton.mp q)) keep ncl
    have st3 : St (i + 1) h₂ := S.W.frame _ _ _ st₂ fun b hb o e => hs.extBut b o (fun q => hCf (q ▸ hb)) e
    have F3 : FrV env h₂ ((x, R (.str r)) :: ρ) := by
      intro y sp e
      rw [List.lookup_cons] at e
      cases hy : y == x with
      | true =>
        rw [hy] at e; cases e
        rw [beq_iff_eq.mp hy]
        exact ⟨v, .inl ⟨hx, _, n3, by simp⟩, Rp.but keep ncl rp⟩
      | false => rw [hy] at e; exact hρ.kp K3 G.tb y sp e
    refine wpAny_mono (TestsNil (f := f) (w := w) (A := A) (env := env) (s := { s' with heap := h₂, toks := tk₁ + 1 }) _) (fun ok s₃ h₃ => ?_) fun _ _ e => e
    obtain ⟨rfl, k₃⟩ := h₃
    rw [if_pos rfl]
    have pure1 : ∀ s₂ s₃, Kps f s₂ s₃ → Kp f g s₂.heap → St (i + 1) s₂.heap → DInv w s₂.heap D keys V i → (∃ m, s₂.heap.Ns env.locals m) → FrV env s₂.heap ((x, R (.str r)) :: ρ) →
        Kp f g s₃.heap ∧ St (i + 1) s₃.heap ∧ DInv w s₃.heap D keys V i ∧ (∃ m, s₃.heap.Ns env.locals m) ∧ FrV env s₃.heap ((x, R (.str r)) :: ρ) := fun s₂ s₃ k a2 a3 a4 a6 a8 => by
      have t2 : Tb s₂.heap := a2.tb G.tb
      refine ⟨a2.trans k.kp, S.W.frame _ _ _ a3 fun b hb o e => k.kp.keep b o (S.nt b hb).1 (fun _ => (S.nt b hb).2) e, ?_, (let ⟨m, n⟩ := a6; ⟨m, Ns.kp n k.kp t2⟩), a8.kp k.kp t2⟩
      obtain ⟨kvs, d, l, vv⟩ := a4
      exact ⟨kvs, d.at fun o e => k.kp.keep _ _ hDg.2.1 (fun _ => hDg.2.2) e, l, fun r hr => let ⟨u, e, p⟩ := vv r hr; ⟨u, e, Rp.kp k.kp t2 p⟩⟩
    obtain ⟨b1, b2, b3, b4, b5⟩ := pure1 _ s₃ k₃ K3 st3 D3 ⟨_, n3⟩ F3
    refine wpAny_mono (hkx r hmem s₃ (G.kp b1) b5 _) (fun kv s₄ h₄ => ?_) fun _ _ e => e
    obtain ⟨rk, k₄⟩ := h₄
    obtain ⟨c1, c2, c3, c4, c5⟩ := pure1 s₃ s₄ k₄ b1 b2 b3 b4 b5
    refine wpAny_mono (hvx r hmem s₄ (G.kp c1) c5 _) (fun vv s₅ h₅ => ?_) fun _ _ e => e
    obtain ⟨rv, k₅⟩ := h₅
    obtain ⟨d1, d2, d3, d4, d5⟩ := pure1 s₄ s₅ k₅ c1 c2 c3 c4 c5
    have rk5 : Rp s₅.heap kv (.str r) := Rp.kp k₅.kp (c1.tb G.tb) rk
    cases rk5
    obtain ⟨kvs, dd, dl, dv⟩ := d3
    refine wpAny_dictSet_pairs (knd := PySem.strKind prg w) (k := r) (strKind_is _ _ _ _) dd (fun h₆ l₆ hs₆ => ?_) (by rw [sizeLine_eq]; omega)
    have nD := noCode (dfr dd)
    have K6 := one _ _ _ hDg d1 nD.1 hs₆
    have keep6 : ∀ b o, b ∉ [D] → s₅.heap.get? b = some o → h₆.get? b = some o := fun b o hb e => hs₆.extBut b o (fun q => hb (by simp [q])) e
    have ncD : ∀ b ∈ [D], ∀ vs, ¬ s₅.heap.PlainList b vs := fun b hb => by rw [List.mem_singleton.mp hb]; exact nD.2
    refine ⟨keys.length + 1 - (i + 1), by omega, i + 1, ((((R1.trans R2).trans .of).trans k₃.ex).trans k₄.ex).trans (Rest.trans k₅.ex .of), K6, S.W.frame _ _ _ d2 fun b hb o e => hs₆.extBut b o (fun q => hDf (q ▸ hb)) e, ?_, (let ⟨m, n⟩ := d4; ⟨m, n.sameBut hs₆ hDC.symm⟩), hlt, rfl⟩
    refine ⟨_, l₆, Nat.le_trans (stored_length_le _ _ _) (by omega), fun q hq => ?_⟩
    rw [valueAt_stored]
    by_cases hqr : q = r
    · rw [if_pos hqr]
      exact ⟨vv, rfl, by rw [hqr]; exact Rp.but keep6 ncD rv⟩
    · rw [if_neg hqr]
      have : q ∈ keys.take i := by
        rw [List.take_add_one, hr] at hq
        rcases List.mem_append.mp hq with z | z
        · exact z
        · simp at z; exact absurd z hqr
      obtain ⟨u, e, p⟩ := dv q this
      exact ⟨u, e, Rp.but keep6 ncD p⟩
  · have hin : i = keys.length := by omega
    subst hin
    have nc := S.nc _ s'.heap st1
    refine S.W.done s' _ _ (hlenk.symm ▸ st1) fun h₁ tk₁ k₂ => ?_
    have K2 : Kp f g h₁ := Kp.but K1 G.tb k₂ S.new (fun b hb => S.nt b (wfp b hb)) (fun b hb => (nc b hb).1)
    have D2 := dkeep _ _ _ wr D1 (fun q => hDf (wfp _ q)) k₂ (fun b hb => (nc b hb).2)
    obtain ⟨m1, n1⟩ := C1
    exact hR _ (R1.trans .of) K2 D2 ⟨m1, n1.at' fun o e => k₂ _ o (fun q => hCf (wfp _ q)) e⟩

/-- y = {x: .. for x in keys} -/
theorem xs_dictcomp {g : Heap} {mu : List Addr} {kx vx iter : PySem.Expr} {x y : Str} {px py : Pos} {scope : Scope} {cl : List (Str × Addr)} {pos spos : Pos} {keys : List Str} {V : Str → List Bool} {rest : List Stmt} {Q : Post}
    (G : Gd w g) (hh : A.handled = none) (hi : EV f w A env ρ iter (R (pS keys))) (hsz : keys.length ≤ 1000000) (hclos : closureFor scope env = pure cl)
    (hcap : Caps scope cl env ρ ρ')
    (hxk : ∀ C, (cEnv scope cl C env).kindOf x = some .local)
    (hkx : ∀ C, ∀ r ∈ keys, EV f w A (cEnv scope cl C env) ((x, R (.str r)) :: ρ') kx (R (.str r)))
    (hvx : ∀ C, ∀ r ∈ keys, EV f w A (cEnv scope cl C env) ((x, R (.str r)) :: ρ') vx (R (pB (V r))))
    (hy : env.kindOf y = some .local ∨ (env.kindOf y = some .cell ∧ (env.cells.lookup y).isSome = true))
    (h : ∀ a, a ∉ ownOf env → XS f w A env g mu ((y, TB w a (keys.map fun r => (r, V r))) :: ρ) rest Q)
    (hsw : swapsWith (.DictComp kx vx [⟨.Name x px, iter, [], 0⟩] scope pos) (some (.Name y py)) spos.line env = pure false := by rfl)
    (hnames : ∀ z ∈ scope.names, z.2 = .local → scope.names.lookup z.1 = some .local := by decide)
    (hkind : scope.kind = .function := by rfl) (hk : env.scope.kind = .function := by rfl)
    (hs : ∀ x, foldedSetIterable iter env x = pure x := by intro _; rfl) : XS f w A env g mu ρ (.Assign [.Name y py] (.DictComp kx vx [⟨.Name x px, iter, [], 0⟩] scope pos) spos :: rest) Q := fun s K Fr E => by
  refine wpAny_execs_cons (wpAny_Assign_Name ?_ hsw)
  rw [arm_eval_DictComp]
  have G0 := G.kp K
  refine wpAny_comprehension_free (use := none) rfl hs hclos hkind hnames (wpAny_mono (hi s G0 Fr.vars E) (fun v s₁ h₁ => ?_) fun _ _ e => e)
  have G₁ := G0.kp h₁.2.kp
  have F₁ := Fr.kp h₁.2.kp G0.tb
  refine iter_list (f := f) (ps := keys.map PV.str) hh s₁ v G₁ h₁.1 _ _ fun s₂ I fp wr P St S k₂ => ?_
  have G₂ := G₁.kp k₂.kp
  have K₂ : Kp f s₁.heap s₂.heap := k₂.kp
  refine wpAny_newObj_type (T := "dict") (data := .dict #[]) (newCompEnv fun h' kh nC hcells => ?_) (show (0 : Nat) ≤ sizeLine + 1 from Nat.zero_le _)
  have K₃ : Kp f s₁.heap (s₂.heap.push { cls := .type "dict", data := .dict #[] }) := K₂.trans (.of_keeps fun _ _ e => Heap.get?_push_of_some _ e)
  have K₄ : Kp f s₁.heap h' := K₃.trans (.of_keeps kh)
  have nD : New s₁.heap s₂.heap.objs.size := new_of K₂ G₁.tb (Nat.le_refl _)
  have hC1 : (s₂.heap.push { cls := .type "dict", data := .dict #[] }).objs.size = s₂.heap.objs.size + 1 := Heap.size_push _ _
  have hDn : (s₂.heap.push { cls := .type "dict", data := .dict #[] }).DictOf (PySem.strKind prg w) s₂.heap.objs.size [] := Heap.DictOf.new s₂.heap
  have hkp : ∀ b o, s₂.heap.get? b = some o → (s₂.heap.push { cls := .type "dict", data := .dict #[] }).get? b = some o := fun b o e => Heap.get?_push_of_some _ e
  generalize hH : (s₂.heap.push { cls := .type "dict", data := .dict #[] }) = H3 at *
  have nCn : New s₁.heap H3.objs.size := new_of K₃ G₁.tb (Nat.le_refl _)
  have fpD : s₂.heap.objs.size ∉ fp := fun q => Nat.lt_irrefl _ (S.lt _ q)
  have fpC : ∀ a, s₂.heap.objs.size < a → a ∉ fp := fun a ha q => Nat.lt_irrefl _ (Nat.lt_trans ha (S.lt _ q))
  have hDl : h'.DictOf (PySem.strKind prg w) s₂.heap.objs.size [] := hDn.at fun o e => kh _ _ e
  have keep2 : ∀ b o, s₂.heap.get? b = some o → h'.get? b = some o := fun b o e => kh _ _ (hkp b o e)
  have st' : St 0 h' := S.W.frame _ _ _ S.st fun b _ o e => keep2 b o e
  have R₂ : Rest s s₂ := (Rest.trans (show Rest s s₁ from h₁.2.ex) k₂.ex)
  have nC1 : s.heap.get? H3.objs.size = none ∧ s.heap.get? s₂.heap.objs.size = none := by
    have aux : ∀ a, New s₁.heap a → s.heap.get? a = none := fun a n => by
      cases q : s.heap.get? a with
      | none => rfl
      | some o =>
        have := h₁.2.kp.keep _ o n.2.1 (fun _ => n.2.2) q
        rw [n.1] at this
        cases this
    exact ⟨aux _ nCn, aux _ nD⟩
  have body : ∀ s₅ : Shared, s₅ = { s₂ with heap := h' } → codeAny (model prg w) A (.compLoop (.DictComp kx vx [⟨.Name x px, iter, [], 0⟩] scope pos) 0 (.ref I) (.ref s₂.heap.objs.size) (cEnv scope cl H3.objs.size env))
      (compPost (model prg w) A E none (fun v s₁ => wpAny (model prg w) A (storeName env y v) (fun _ s' => match Flow.next with | .next => wpAny (model prg w) A (execs rest env) (fun fl s' => Q fl s'.heap ∧ Kp f g s'.heap ∧ RO f (ownOf env ++ mu) s s') E s' | fl => (fun fl s' => Q fl s'.heap ∧ Kp f g s'.heap ∧ RO f (ownOf env ++ mu) s s') fl s') E s₁) (.ref s₂.heap.objs.size) H3.objs.size) s₅ := by
    rintro s₅ rfl
    refine comp_loopD (env := cEnv scope cl H3.objs.size env) (ρ := ρ') (keys := keys) (V := V) G₁ S st' K₄ hDl ⟨_, nC⟩ (by show (relabel scope env).kind = .function; exact hkind) (hxk _) nD nCn (by show s₂.heap.objs.size ≠ H3.objs.size; omega) fpD (fpC _ (by show _ < H3.objs.size; omega)) hsz (hcap.frv F₁.vars) (hkx _) (hvx _) ?_
    intro s' R' K' D' ⟨m, n'⟩
    refine ⟨m, n', fun h'' hs => ?_⟩
    have keepC : ∀ b o, b ∉ [H3.objs.size] → s'.heap.get? b = some o → h''.get? b = some o := fun b o hb e => hs.extBut b o (fun q => hb (by simp [q])) e
    have noC := noCode (Heap.Ns.frameish n')
    have K5 : Kp f s₁.heap h'' := Kp.but (wr := [H3.objs.size]) K' G₁.tb keepC (fun b hb => by rw [List.mem_singleton.mp hb]; exact nCn.1) (fun b hb => by rw [List.mem_singleton.mp hb]; exact nCn.2) (fun b hb => by rw [List.mem_singleton.mp hb]; exact noC.1)
    have kk : Kps f s { s' with heap := h'' } := ⟨(R₂.trans .ofH).trans (R'.trans .ofH), h₁.2.kp.trans K5⟩
    have K6 := K.trans kk.kp
    have F6 := Fr.kp kk.kp G0.tb
    have aO : s₂.heap.objs.size ∉ ownOf env := fun q => by
      obtain ⟨o, e, _⟩ := Fr.fr _ q
      rw [nC1.2] at e; cases e
    obtain ⟨kvs, dd, dl, dv⟩ := D'
    have hTB : (TB w s₂.heap.objs.size (keys.map fun r => (r, V r))).P h'' (.ref s₂.heap.objs.size) := by
      refine ⟨rfl, G₂.sz, valueAt kvs, (dd.at fun o e => keepC _ _ (by simp; omega) e).mapOf, fun r bs hr => ?_⟩
      obtain ⟨q, hq, e⟩ := List.mem_map.mp hr
      cases e
      rw [List.take_length] at dv
      obtain ⟨u, e, p⟩ := dv r hq
      exact ⟨u, e, Rp.but keepC (fun b hb => by rw [List.mem_singleton.mp hb]; exact noC.2) p⟩
    refine store_ (P := TB w s₂.heap.objs.size (keys.map fun r => (r, V r))) F6 K6 hTB (fun b hb q => ?_) hk hy fun s₇ K₇ F₇ R₇ _ => ?_
    · rw [List.mem_singleton.mp q] at hb; exact aO hb
    · exact wpAny_mono (h _ aO s₇ K₇ F₇ E) (fun fl s₈ q => ⟨q.1, q.2.1, ((RO.of kk).trans R₇.left).trans q.2.2⟩) fun _ _ e => e
  exact codeAny_compStart_dict (body _ rfl) (S.W.self 0 _ _ _ st' (body _ rfl))
end
end Mine

/- C14 -/
open PySem PySem.Spec PySem.Calls PySem.W PyProof.Rows
set_option maxRecDepth 100000
namespace Mine
def meantS (x : Str) : List Str := if x == "." then ["\\."] else if x == "7" then ["7", "[0-9]"] else [x]
theorem meantS_ne (x : Str) : meantS x ≠ [] := by
  unfold meantS
  split
  · simp
  · split <;> simp
theorem meant_spec (f : Bool) (w : World) (x : Str) : SpecOf f w 1 109 [.str x] (pS (meantS x)) := by
  refine spec_def (fd := fdOf w.params 109) (body := bodyOf w.params 109) (names := ["sign"]) rfl rfl rfl ?_ rfl (by decide) (by rfl) ?_ (show ([] : List Str).Nodup from List.nodup_nil)
  · intro s vs hl G
    match vs, hl with
    | [v], _ => exact BindsTo.of_eq rfl
  · intro A L g hR G
    unfold meantS
    refine xs_ifret (b := x == ".") G (eb_cmp (P1 := R (.str x)) (P2 := R (.str ".")) (ev_name rfl) ev_cstr (fun s a c _ ha hc => op_eq_str ha hc)) (fun h => ?_) (fun h => ?_)
    · rw [if_pos h]
      exact xs_last (x_ret G (ev_list (ps := [.str "\\."]) (evs_cons ev_cstr evs_nil) (by decide)))
    rw [if_neg (by rw [h]; exact Bool.false_ne_true)]
    refine xs_ifret (b := x == "7") G (eb_cmp (P1 := R (.str x)) (P2 := R (.str "7")) (ev_name rfl) ev_cstr (fun s a c _ ha hc => op_eq_str ha hc)) (fun h2 => ?_) (fun h2 => ?_)
    · rw [if_pos h2]
      exact xs_last (x_ret G (ev_list (ps := [.str "7", .str "[0-9]"]) (evs_cons ev_cstr (evs_cons ev_cstr evs_nil)) (by decide)))
    rw [if_neg (by rw [h2]; exact Bool.false_ne_true)]
    exact xs_last (x_ret G (ev_list (ps := [.str x]) (evs_cons (ev_name rfl) evs_nil) (Nat.le_of_ble_eq_true rfl)))
def rowP (h : Str) : List (List Str) := (signs h).map meantS
/-- sorted texts -/
def SoS (ss : List Str) : SP := .mk0 (fun h v => ∃ ss', ss'.Perm ss ∧ sortedS ss' = true ∧ Rp h v (pS ss')) (fun t k ⟨ss', a, b, r⟩ => ⟨ss', a, b, Rp.kp k t r⟩) (fun _ _ _ _ k ⟨ss', a, b, r⟩ => ⟨ss', a, b, Rp.st k r⟩)
theorem rps_of_strsAre {h : Heap} {vs : List Value} {xs : List Str} (r : StrsAre vs xs) : Rps h vs (xs.map .str) := by
  induction r with
  | nil => exact .nil
  | cons y t _ ih => exact .cons (.str y t) ih
section
variable {f : Bool} {w : World} {A : Around} {s : Shared} {a b : Value} {ss ts : List Str}
theorem op_sorted (G : Gd w s.heap) (ha : Rp s.heap a (pS ss)) (hz : ss.length < 64) : Ev f w A (call (.builtin "sorted") [a]) (SoS ss).P s := fun E => by
  cases ha with
  | list z l r =>
    have q := r.length
    rw [List.length_map] at q
    refine sorted_strs l.isList (strsAre r) (by omega) fun out ss' h1 h2 h3 => ?_
    obtain ⟨e, he⟩ := sortedAll_at s.heap _ out
    refine ⟨⟨ss', h2, h3, .list (Nat.le_trans G.sz (Nat.le_succ _)) (by simpa using ⟨e, he⟩) (rps_of_strsAre h1)⟩, .of_keeps (tk := s.toks) fun _ _ => sortedAll_old⟩
end
end Mine

/- C15 -/
open PySem PySem.Spec PySem.Calls PySem.W PyProof.Rows
set_option maxRecDepth 100000
namespace Mine
def hostOf (x : Int) : Str := hostP (x.fmod 128).toNat
def base3 : List Str := ["a.b.local", "b.local", "b.b.local"]
def hostsP (xs : List Int) : List Str := base3 ++ (xs.take 3).map hostOf
def keepN (rules : List Str) (i : Nat) : List Str := (rules.take i).foldl keepP []
theorem keepN_succ {rules : List Str} {i : Nat} {r : Str} (h : rules[i]? = some r) : keepN rules (i + 1) = keepP (keepN rules i) r := by
  unfold keepN
  rw [List.take_add_one, h]
  simp
theorem keepP_len (kept : List Str) (r : Str) : (keepP kept r).length ≤ kept.length + 1 := by
  unfold keepP
  split
  · rw [List.length_append]
    have := List.length_filter_le (fun one => !udmL one r) kept
    simp
    omega
  · omega
theorem keepP_mem {kept : List Str} {r x : Str} (h : x ∈ keepP kept r) : x ∈ kept ∨ x = r := by
  unfold keepP at h
  split at h
  · rcases List.mem_append.mp h with z | z
    · exact .inl (List.mem_filter.mp z).1
    · simp at z; exact .inr z
  · exact .inl h
theorem keepN_ok (rules : List Str) (i : Nat) : (keepN rules i).length ≤ i ∧ ∀ x ∈ keepN rules i, x ∈ rules := by
  induction i with
  | zero => exact ⟨by simp [keepN], by simp [keepN]⟩
  | succ i ih =>
    cases h : rules[i]? with
    | none =>
      have : keepN rules (i + 1) = keepN rules i := by
        unfold keepN
        rw [List.take_add_one, h]; simp
      rw [this]; exact ⟨by omega, ih.2⟩
    | some r =>
      rw [keepN_succ h]
      refine ⟨Nat.le_trans (keepP_len _ _) (by omega), fun x hx => ?_⟩
      rcases keepP_mem hx with z | z
      · exact ih.2 x z
      · rw [z]; exact List.mem_of_getElem? h
def singleP (rules : List Str) : List Str := ((List.range rules.length).filter fun k => !((rules.take k).any (· == rules[k]?.getD ""))).map fun k => rules[k]?.getD ""
theorem singleP_mem {rules : List Str} {r : Str} (h : r ∈ singleP rules) : r ∈ rules := by
  obtain ⟨j, hj, rfl⟩ := List.mem_map.mp h
  have := List.mem_range.mp (List.mem_filter.mp hj).1
  simp [this]
theorem singleP_len (rules : List Str) : (singleP rules).length ≤ rules.length := by
  unfold singleP
  rw [List.length_map]
  exact Nat.le_trans (List.length_filter_le _ _) (by simp)
def figItems : List (Option Str) := [none, some "\\.", some "[0-9]"]
def kvsP (rows : List (List (List Str))) (single : List Str) : List (Str × List Bool) := single.map fun r => (r, rows.map (takenP1 (trP (patternP r))))
/-- the function object at a -/
def FnK (a : Addr) (o : Obj) (h : o.cls = .type "function" ∧ ∃ fd, o.data = .func fd) : SP := .mk0 (fun h v => v = .ref a ∧ h.get? a = some o) (fun t k ⟨e, x⟩ => ⟨e, k.get t x (fun ps q => by obtain ⟨_, fd, hd⟩ := h; rw [q] at hd; cases hd)⟩)
  (fun _ _ _ _ k ⟨e, x⟩ => ⟨e, k.get x (not_frameish h.1 (fun _ _ q => by obtain ⟨_, fd, hd⟩ := h; rw [q] at hd; cases hd) (fun _ q => by obtain ⟨_, fd, hd⟩ := h; rw [q] at hd; cases hd))⟩)

section
variable {f : Bool} {w : World} {A : Around} {env : Env} {g : Heap} {mu : List Addr} {ρ : Ro}
theorem ev_globF {x : Str} {pos : Pos} {a : Addr} {o : Obj} (ho : o.cls = .type "function" ∧ ∃ fd, o.data = .func fd) (hK : (KK w.params).lookup a = some o) (h : EV f w A env ρ (.Name x pos) (R (.obj a))) : EV f w A env ρ (.Name x pos) (FnK a o ho) := fun s G F E =>
  wpAny_mono (h s G F E) (fun v s' q => by
    obtain ⟨r, k⟩ := q
    have r : Rp s'.heap v (.obj a) := r
    cases r
    exact ⟨⟨rfl, (G.kp k.kp).K _ _ hK⟩, k⟩) fun _ _ e => e
theorem FnK.fn {a : Addr} {o : Obj} (ho : o.cls = .type "function" ∧ ∃ fd, o.data = .func fd) (h : Heap) (v : Value) (x : (FnK a o ho).P h v) : IsFn h v := by
  obtain ⟨e, x⟩ := x
  obtain ⟨_, fd, hd⟩ := ho
  exact ⟨a, o, fd, e, x, hd⟩
/-- reduce(_law_keep, rules, []) -/
theorem ev_keepall {e1 : PySem.Expr} {p1 p2 p3 pos : Pos} {rules : List Str} (hR : Room 4 A) (hg : ∀ r ∈ rules, gt r = true) (hz : rules.length ≤ 900) (h1 : EV f w A env ρ e1 (R (pS rules)))
    (hred : EV f w A env ρ (.Name "reduce" p1) (R (.obj 97))) (hkeep : EV f w A env ρ (.Name "_law_keep" p2) (R (.obj 138)))
    (hst1 : starEach [.Name "_law_keep" p2, e1, .List [] p3] env = (false, eval (.Name "_law_keep" p2) env) :: starEach [e1, .List [] p3] env) (hst2 : starEach [e1, .List [] p3] env = (false, eval e1 env) :: starEach [.List [] p3] env)
    (hst3 : starEach [.List [] p3] env = (false, eval (.List [] p3) env) :: starEach [] env)
    (hc : ∀ k, eval (.Call (.Name "reduce" p1) [.Name "_law_keep" p2, e1, .List [] p3] k pos) env = (do callWith pos (← eval (.Name "reduce" p1) env) [] (backTo pos (starEach [.Name "_law_keep" p2, e1, .List [] p3] env)) (backToKw pos (keywordEach k env))))
    (hplain : (backTo pos (starEach [e1, .List [] p3] env)).any (·.1) = false) :
    EV f w A env ρ (.Call (.Name "reduce" p1) [.Name "_law_keep" p2, e1, .List [] p3] [] pos) (R (pS (keepN rules rules.length))) := by
  have ho : ∃ o, (KK w.params).lookup 138 = some o ∧ (o.cls = .type "function" ∧ ∃ fd, o.data = .func fd) := ⟨_, rfl, rfl, _, rfl⟩
  obtain ⟨o, hK, ho⟩ := ho
  refine ev_callS (n := 4) hR hred (fun _ => rfl) (evs_cons (ev_globF ho hK hkeep) (evs_cons h1 (evs_cons (P := R (pS (keepN rules 0))) (ev_list (ps := []) evs_nil (Nat.zero_le _)) evs_nil hst3) hst2) hst1) ?_ hc hst1 hplain
  refine reduce_specN f w (n := 3) (ps := rules.map PV.str) (acc := fun i => pS (keepN rules i)) (l0 := []) (List.length_map ..) (FnK.fn ho) (by rw [List.length_map]; omega) rfl (fun i p hp A s v a b hR G hv ha hb => ?_)
  rw [List.getElem?_map] at hp
  obtain ⟨r, hr, rfl⟩ := Option.map_eq_some_iff.mp hp
  obtain ⟨rfl, _⟩ := hv
  have hk := keepN_ok rules i
  have hlt : i < rules.length := by
    rcases Nat.lt_or_ge i rules.length with z | z
    · exact z
    · rw [List.getElem?_eq_none z] at hr; cases hr
  have hs := keep_spec f w (keepN rules i) r (fun x hx => hg x (hk.2 x hx)) (hg r (List.mem_of_getElem? hr)) (by omega) A s [a, b] hR G (.cons ha (.cons hb .nil))
  rw [keepN_succ hr]
  exact hs
end
end Mine

/- C16 -/
open PySem PySem.Spec PySem.Calls PySem.W PyProof.Rows
set_option maxRecDepth 100000
namespace Mine
theorem pairwise_of_sorted : ∀ (l : List Str), sortedS l = true → l.Pairwise fun a b => ltCps b.cps.toList a.cps.toList = false := by
  have tr : ∀ (x y z : List Nat), ltCps y x = false → ltCps z y = false → ltCps z x = false := fun x y z h1 h2 => by
    rw [ltCps_eq, decide_eq_false_iff_not, List.not_lt] at *
    exact List.le_trans h1 h2
  have key : ∀ (l : List Str) (p : Str), risingS p l = true → (∀ x ∈ l, ltCps x.cps.toList p.cps.toList = false) ∧ l.Pairwise fun a b => ltCps b.cps.toList a.cps.toList = false := by
    intro l
    induction l with
    | nil => intro p _; exact ⟨fun x hx => (by cases hx), .nil⟩
    | cons y l ih =>
      intro p h
      simp only [risingS, Bool.and_eq_true, Bool.not_eq_true'] at h
      obtain ⟨h1, h2⟩ := h
      obtain ⟨i1, i2⟩ := ih y h2
      refine ⟨fun x hx => ?_, .cons (fun x hx => i1 x hx) i2⟩
      rcases List.mem_cons.mp hx with rfl | hx
      · exact h1
      · exact tr _ _ _ h1 (i1 x hx)
  intro l h
  cases l with
  | nil => exact .nil
  | cons x l =>
    obtain ⟨h1, h2⟩ := key l x h
    exact .cons h1 h2
theorem sorted_uniq {a b : List Str} (h : a.Perm b) (ha : sortedS a = true) (hb : sortedS b = true) : a = b := by
  refine List.Perm.eq_of_pairwise (le := fun a b => ltCps b.cps.toList a.cps.toList = false) (fun x y _ _ h1 h2 => ?_) (pairwise_of_sorted a ha) (pairwise_of_sorted b hb) h
  rw [ltCps_eq, decide_eq_false_iff_not, List.not_lt] at h1 h2
  have := List.le_antisymm h1 h2
  cases x with | mk cx =>
  cases y with | mk cy =>
  have : cx = cy := Array.toList_inj.mp this
  rw [this]
/-- what is known of the hosts and the rules -/
structure Facts (hs rs : List Str) : Prop where
  hn : hs.length ≤ 6
  rn : rs.length = hs.length
  hg : ∀ h ∈ hs, gt h = true ∧ (h == "") = false ∧ (restP h).length ≤ 1000 ∧ Txt.lower (Txt.upper h) = h ∧ (Txt.upper h).length ≤ 100
  rr : rs = hs.map reachP
  rg : ∀ r ∈ rs, gt r = true ∧ (r == "") = false ∧ (∀ c ∈ (patternP r).cps.toList, c ∈ trChars) ∧ (patternP r).length ≤ 900
  kept : keepN rs rs.length = neededP (kvsP (hs.map rowP) (singleP rs)) (singleP rs) hs.length
  one : ∀ k, k < hs.length → (keepN rs rs.length).filter (fun r => udmL (hs[k]?.getD "") r) = (keepN rs rs.length).filter (fun r => tabP (kvsP (hs.map rowP) (singleP rs)) r k) ∧ ((keepN rs rs.length).filter (fun r => tabP (kvsP (hs.map rowP) (singleP rs)) r k)).length = 1
  rev : (keepN rs.reverse rs.length).Perm (keepN rs rs.length)
theorem kvs_lookup {rows : List (List (List Str))} {single : List Str} {r : Str} (h : r ∈ single) : (kvsP rows single).lookup r = some (rows.map (takenP1 (trP (patternP r)))) := by
  unfold kvsP
  induction single with
  | nil => cases h
  | cons x l ih =>
    rw [List.map_cons, List.lookup_cons]
    cases hx : r == x with
    | true => rw [beq_iff_eq.mp hx]
    | false =>
      simp only
      apply ih
      rcases List.mem_cons.mp h with z | z
      · rw [z] at hx; simp at hx
      · exact z
theorem row_len {h : Str} (hz : h.length ≤ 100) : (rowP h).length ≤ 900 := by
  unfold rowP signs
  rw [List.length_map, List.length_map]
  have : h.cps.toList.length = h.length := by simp [Str.length]
  omega
def bSi (rules : List Str) : PV → Bool
  | .int k => !((rules.take k.toNat).any (· == rules[k.toNat]?.getD ""))
  | _ => false
def fSi (rules : List Str) : PV → PV
  | .int k => .str (rules[k.toNat]?.getD "")
  | _ => .str ""
theorem single_map (rules : List Str) : (((upFrom 0 rules.length).map PV.int).filter (bSi rules)).map (fSi rules) = (singleP rules).map PV.str := by
  unfold upFrom singleP
  generalize List.range rules.length = l
  induction l with
  | nil => rfl
  | cons j l ih =>
    have e : bSi rules (PV.int (0 + (j : Int))) = !((rules.take j).any (· == rules[j]?.getD "")) := by
      show (!((rules.take (0 + (j : Int)).toNat).any (· == rules[(0 + (j : Int)).toNat]?.getD ""))) = _
      rw [show (0 + (j : Int)).toNat = j by omega]
    simp only [List.map_cons, List.filter_cons, e]
    cases !((rules.take j).any (· == rules[j]?.getD "")) with
    | true =>
      simp only [if_true, List.map_cons]
      rw [ih]
      congr 1
      show PV.str (rules[(0 + (j : Int)).toNat]?.getD "") = _
      rw [show (0 + (j : Int)).toNat = j by omega]
    | false => simp only [Bool.false_eq_true, if_false]; exact ih
theorem needed_mem {kvs : List (Str × List Bool)} {single : List Str} {count : Nat} {r : Str} (h : r ∈ neededP kvs single count) : r ∈ single := by
  unfold neededP at h
  generalize 2 ^ single.length = n at h
  induction n with
  | zero => simpa [needN] using h
  | succ n ih =>
    rw [needN_succ] at h
    unfold needStep at h
    split at h
    · exact ih (List.mem_filter.mp h).1
    · exact ih h
set_option maxHeartbeats 8000000 in
theorem law_rest {f : Bool} {w : World} {A : Around} {g : Heap} {L : Addr} {hs rs : List Str} (hR : Room 6 A) (G : Gd w g) (Fa : Facts hs rs) :
    XS f w A (callEnvC (fdOf w.params 148) L 148) g [] [("hosts", R (pS hs)), ("rows", R (.list ((hs.map rowP).map pL))), ("rules", R (pS rs))] ((bodyOf w.params 148).drop 4) (retP (R (.bool true))) := by
  have hu : A.units < cLine := by have := hR.2.2; omega
  have hrn : rs.length ≤ 6 := by rw [Fa.rn]; exact Fa.hn
  have hkl := (keepN_ok rs rs.length)
  -- kept
  refine xs_one (x_set (P := R (pS (keepN rs rs.length))) G (ev_keepall (hR.weak (by decide)) (fun r hr => (Fa.rg r hr).1) (by omega) (ev_name rfl) (ev_glob (v := .ref 97) (p := .obj 97) (fun _ => rfl) (fun h => .obj 97 (by decide))) (ev_glob (v := .ref 138) (p := .obj 138) (fun _ => rfl) (fun h => .obj 138 (by decide))) rfl rfl rfl (by intro _; rfl) rfl) off_any (.inl rfl)) ?_
  -- single
  refine xs_one (ρ' := [("single", R (pS (singleP rs))), ("kept", R (pS (keepN rs rs.length))), ("hosts", R (pS hs)), ("rows", R (.list ((hs.map rowP).map pL))), ("rules", R (pS rs))]) ?_ ?_
  · unfold pS
    rw [← single_map]
    refine x_setc (P1 := RR 0 (rs.length : Int)) (ps := (upFrom 0 rs.length).map PV.int) (b := bSi rs) (F := fSi rs) (ρ' := [("rules", R (pS rs))]) G hR.1 ?_ (iter_range hR.1 (by simp) (by decide) (by decide) (by omega)) (by simp [upFrom]; omega) rfl
      (caps_cons caps_nil) (fun C => .inl rfl) (fun C p hp s' G' F' => ?_) (fun C p hp hb => ?_) (fun k p hp hb => ?_) rfl
    · refine ev_callt (id := "range") (ev_blt (v := .type "range") (fun _ => rfl) (by rfl) (fun h => .ty _)) (evs_cons (P := R (.int rs.length)) (ev_callb (id := "len") (ev_blt (v := .builtin "len") (fun _ => rfl) (by rfl) (fun h => .bi _)) (evs_cons (P := R (pS rs)) (ev_name rfl) evs_nil) (fun s vs G h => ?_)) evs_nil) (fun s vs G h => ?_)
      · obtain ⟨a, rfl, ha⟩ := sp1 h
        have := op_len_list (f := f) (w := w) (A := A) ha (by rw [List.length_map]; omega)
        rw [List.length_map] at this
        exact this
      · obtain ⟨a, rfl, ha⟩ := sp1 h
        exact op_range1 ha
    · obtain ⟨j', hj', rfl⟩ := List.mem_map.mp hp
      obtain ⟨j, hj, rfl⟩ := List.mem_map.mp hj'
      have hj := List.mem_range.mp hj
      have hjz : ((0 : Int) + (j : Int)).toNat = j := by omega
      refine TestsEB G' F' (EB.cast (eb_cmp (P1 := R (.str (rs[j]?.getD ""))) (P2 := R (pS (rs.take j))) (ev_sub (P1 := R (pS rs)) (P2 := R (.int (0 + (j : Int)))) (ev_name rfl) (ev_name rfl) (fun s a b _ ha hb => op_item_list ha hb (by omega) (by omega) ?_)) (EV.cast (p := .list ((rs.map PV.str).take j)) (ev_sub (P1 := R (pS rs)) (P2 := SL none (some (0 + (j : Int))) none) (ev_name rfl) (ev_slice ep_none (ep_some (ev_name rfl)) ep_none) (fun s a b G ha hb => op_list_slice G (by rw [List.length_map]; omega) ha hb (by simp) (fun vs r => ?_))) (by unfold pS; rw [List.map_take])) (fun s a c _ ha hc => op_notin_strs ha hc)) ?_)
      · rw [hjz, List.getElem?_map]; simp [hj]
      · rw [Int.zero_add]
        exact pick_take r j
      · show _ = !((rs.take (0 + (j : Int)).toNat).any (· == rs[(0 + (j : Int)).toNat]?.getD ""))
        rw [hjz]
    · obtain ⟨j', hj', rfl⟩ := List.mem_map.mp hp
      obtain ⟨j, hj, rfl⟩ := List.mem_map.mp hj'
      have hj := List.mem_range.mp hj
      have hjz : ((0 : Int) + (j : Int)).toNat = j := by omega
      refine ev_sub (P1 := R (pS rs)) (P2 := R (.int (0 + (j : Int)))) (ev_name rfl) (ev_name rfl) (fun s a b _ ha hb => op_item_list ha hb (by omega) (by omega) ?_)
      show (rs.map PV.str)[(0 + (j : Int)).toNat]? = some (PV.str (rs[(0 + (j : Int)).toNat]?.getD ""))
      rw [hjz, List.getElem?_map]
      simp [hj]
    · obtain ⟨j', hj', rfl⟩ := List.mem_map.mp hp
      exact not_occ_atom fun l z => by cases z
  -- table
  have hsl := singleP_len rs
  refine xs_dictcomp (keys := singleP rs) (V := fun r => (hs.map rowP).map (takenP1 (trP (patternP r)))) (ρ' := [("rows", R (.list ((hs.map rowP).map pL)))]) G hR.1 (ev_name rfl) (by omega) rfl (caps_cons caps_nil) (fun C => rfl) (fun C r hr => ev_name rfl) (fun C r hr => ?_) (.inr ⟨rfl, rfl⟩) (fun a ha => ?_)
  · obtain ⟨g1, g2, g3, g4⟩ := Fa.rg r (singleP_mem hr)
    refine ev_call (n := 5) (hR.weak (by decide)) (ev_glob (v := .ref 119) (p := .obj 119) (fun _ => rfl) (fun h => .obj 119 (by decide))) (fun _ => rfl) (evs_cons (P := R (.str (patternP r))) (ev_call (n := 1) (hR.weak (by decide)) (ev_glob (v := .ref 133) (p := .obj 133) (fun _ => rfl) (fun h => .obj 133 (by decide))) (fun _ => rfl) (evs_cons (P := R (.str r)) (ev_name rfl) evs_nil) (pattern_spec f w r g2 (by have := gt_len g1; omega))) (evs_cons (P := R (.list ((hs.map rowP).map pL))) (ev_name rfl) evs_nil))
      (taken_spec f w (patternP r) (trP (patternP r)) (hs.map rowP) (translate_spec f w (patternP r) g3 (by omega)) ?_ (by rw [List.length_map]; have := Fa.hn; omega) (fun row hrow => ?_))
    · have := trN_len (patternP r) (patternP r).length
      have e : trN (patternP r) (patternP r).length = trP (patternP r) := by
        unfold trN trP
        rw [List.take_of_length_le (by simp [Str.length])]
      rw [e] at this
      omega
    · obtain ⟨h, hh, rfl⟩ := List.mem_map.mp hrow
      exact row_len (gt_len (Fa.hg h hh).1)
  -- kept = needed
  have hn6 : hs.length ≤ 6 := Fa.hn
  refine xs_one (ρ' := [("table", TB w a (kvsP (hs.map rowP) (singleP rs))), ("single", R (pS (singleP rs))), ("kept", R (pS (keepN rs rs.length))), ("hosts", R (pS hs)), ("rows", R (.list ((hs.map rowP).map pL))), ("rules", R (pS rs))]) (x_if (b := false) G (EB.cast (eb_cmp (P1 := R (pS (keepN rs rs.length))) (P2 := R (pS (neededP (kvsP (hs.map rowP) (singleP rs)) (singleP rs) hs.length))) (ev_name rfl) (ev_callS (n := 1) (hR.weak (by decide)) (ev_glob (v := .ref 143) (p := .obj 143) (fun _ => rfl) (fun h => .obj 143 (by decide))) (fun _ => rfl) (evs_cons (P := R (pS (singleP rs))) (ev_name rfl) (evs_cons (P := TB w a (kvsP (hs.map rowP) (singleP rs))) (ev_name rfl) (evs_cons (P := R (iN hs.length)) (ev_callb (id := "len") (ev_blt (v := .builtin "len") (fun _ => rfl) (by rfl) (fun h => .bi _)) (evs_cons (P := R (pS hs)) (ev_name rfl) evs_nil) (fun s vs G h => ?_)) evs_nil))) (needed_spec f w (singleP rs) (kvsP (hs.map rowP) (singleP rs)) hs.length a (by omega) (by omega) (fun r hr => ⟨_, kvs_lookup hr, by simp⟩))) (fun s a c _ ha hc => op_ne_strs hu ha hc)) (by rw [← Fa.kept]; simp)) (fun q => by cases q) (fun _ => xs_nil fun h F => ⟨rfl, F⟩)) ?_
  · obtain ⟨a, rfl, ha⟩ := sp1 h
    have := op_len_list (f := f) (w := w) (A := A) ha (by rw [List.length_map]; omega)
    rw [List.length_map] at this
    exact this
  -- the loop
  let ρs : Nat → Ro := fun i => [("table", TB w a (kvsP (hs.map rowP) (singleP rs))), ("kept", R (pS (keepN rs rs.length))), ("hosts", R (pS hs)), ("rules", R (pS rs))]
  have el : ((upFrom 0 hs.length).map PV.int).length = hs.length := by simp [upFrom]
  refine xs_one (ρ' := ρs hs.length) ?_ ?_
  · rw [← el]
    refine x_for (ρs := ρs) (P1 := RR 0 (hs.length : Int)) (ps := (upFrom 0 hs.length).map PV.int) G ?_ (iter_rangeR hR.1 (by simp) (by decide) (by decide) (by omega)) (fun b hb => by cases hb) (sub_cons (sub_cons (sub_cons (sub_cons sub_nil)))) (fun p hp l => ?_) (fun i => bas_cons (bas_cons (bas_cons (bas_cons bas_nil (.inl rfl)) (.inl rfl)) (.inl rfl)) (.inr ⟨"table", rfl⟩)) (.inr ⟨rfl, rfl⟩) (fun i p hp => ?_)
    · refine ev_callt (id := "range") (ev_blt (v := .type "range") (fun _ => rfl) (by rfl) (fun h => .ty _)) (evs_cons (P := R (.int hs.length)) (ev_callb (id := "len") (ev_blt (v := .builtin "len") (fun _ => rfl) (by rfl) (fun h => .bi _)) (evs_cons (P := R (pS hs)) (ev_name rfl) evs_nil) (fun s vs G h => ?_)) evs_nil) (fun s vs G h => ?_)
      · obtain ⟨a, rfl, ha⟩ := sp1 h
        have := op_len_list (f := f) (w := w) (A := A) ha (by rw [List.length_map]; omega)
        rw [List.length_map] at this
        exact this
      · obtain ⟨a, rfl, ha⟩ := sp1 h
        exact op_range1 ha
    · obtain ⟨i, _, rfl⟩ := List.mem_map.mp hp
      intro z; cases z
    · have hi : i < hs.length ∧ p = .int (0 + (i : Int)) := by
        unfold upFrom at hp
        rw [List.map_map, List.getElem?_map] at hp
        obtain ⟨j, hj, rfl⟩ := Option.map_eq_some_iff.mp hp
        have hlt : i < (List.range hs.length).length := by
          rcases Nat.lt_or_ge i (List.range hs.length).length with z | z
          · exact z
          · rw [List.getElem?_eq_none z] at hj; cases hj
        rw [List.length_range] at hlt
        rw [List.getElem?_range hlt] at hj
        cases hj
        exact ⟨hlt, rfl⟩
      obtain ⟨hilt, rfl⟩ := hi
      have htz : ((0 : Int) + (i : Int)).toNat = i := by omega
      have hmem : hs[i]?.getD "" ∈ hs := by simp [hilt]
      obtain ⟨q1, q2, q3, q4, q5⟩ := Fa.hg _ hmem
      have hhost : (hs.map PV.str)[(0 + (i : Int)).toNat]? = some (.str (hs[i]?.getD "")) := by
        rw [htz, List.getElem?_map]
        simp [hilt]
      refine xs_one (ρ' := [("matched", R (pS ((keepN rs rs.length).filter fun r => udmL (hs[i]?.getD "") r))), ("k", R (.int (0 + (i : Int)))), ("table", TB w a (kvsP (hs.map rowP) (singleP rs))), ("kept", R (pS (keepN rs rs.length))), ("hosts", R (pS hs)), ("rules", R (pS rs))]) ?_ ?_
      · unfold pS
        rw [← filt_str _ (fun r => udmL (hs[i]?.getD "") r)]
        refine x_setc (P1 := R (pS (keepN rs rs.length))) (ps := (keepN rs rs.length).map PV.str) (b := fun p => udmL (hs[i]?.getD "") (decS p)) (F := fun p => p) (ρ' := [("hosts", R (pS hs)), ("k", R (.int (0 + (i : Int))))]) G hR.1 (ev_name rfl) (iter_list hR.1) (by rw [List.length_map]; omega) rfl
          (caps_cons (caps_cons caps_nil)) (fun C => .inl rfl) (fun C p hp s' G' F' => ?_) (fun C p hp hb => ev_name rfl) (fun k p hp hb => ?_) rfl
        · obtain ⟨r, hr, rfl⟩ := List.mem_map.mp hp
          have gr := (Fa.rg r (hkl.2 r hr)).1
          refine TestsEB G' F' (eb_bool (ev_call (n := 2) (hR.weak (by decide)) (ev_glob (v := .ref 57) (p := .obj 57) (fun _ => rfl) (fun h => .obj 57 (by decide))) (fun _ => rfl) (evs_cons (P := R (.str (Txt.upper (hs[i]?.getD "")))) (ev_meth0 (P1 := R (.str (hs[i]?.getD ""))) (ev_sub (P1 := R (pS hs)) (P2 := R (.int (0 + (i : Int)))) (ev_name rfl) (ev_name rfl) (fun s a b _ ha hb => op_item_list ha hb (by omega) (by omega) hhost)) (gm_str F.slot_str_upper F.type_str_upper) (fun s v G r => m_upper r (long_of (by omega)))) (evs_cons (P := R (.str r)) (ev_name rfl) evs_nil))
            (udm_spec f w _ _ _ _ q4 (gt_low gr) (gt_ok q1) (gt_ok gr) (long_of (by have := gt_len q1; omega)) (long_of (show r.length ≤ 1000 by have := gt_len gr; omega)))))
        · obtain ⟨r, hr, rfl⟩ := List.mem_map.mp hp
          exact not_occ_atom fun l z => by cases z
      · obtain ⟨one1, one2⟩ := Fa.one i hilt
        refine xs_one (ρ' := ρs (i + 1)) (x_if (b := false) G (EB.cast (eb_or2 (a := ((keepN rs rs.length).filter (fun r => udmL (hs[i]?.getD "") r)) != ((keepN rs rs.length).filter (fun r => tabP (kvsP (hs.map rowP) (singleP rs)) r i))) (b := ((((keepN rs rs.length).filter (fun r => udmL (hs[i]?.getD "") r)).length : Int) != 1))
          (eb_cmp (P1 := R (pS ((keepN rs rs.length).filter fun r => udmL (hs[i]?.getD "") r))) (P2 := R (pS ((keepN rs rs.length).filter fun r => tabP (kvsP (hs.map rowP) (singleP rs)) r i))) (ev_name rfl) ?_ (fun s a c _ ha hc => op_ne_strs hu ha hc))
          (fun _ => eb_cmp (P1 := R (.int (((keepN rs rs.length).filter (fun r => udmL (hs[i]?.getD "") r)).length : Int))) (P2 := R (.int 1)) (ev_callb (id := "len") (ev_blt (v := .builtin "len") (fun _ => rfl) (by rfl) (fun h => .bi _)) (evs_cons (P := R (pS ((keepN rs rs.length).filter fun r => udmL (hs[i]?.getD "") r))) (ev_name rfl) evs_nil) (fun s vs G h => ?_)) ev_cint (fun s a c _ ha hc => op_ne_int ha hc))) ?_) (fun q => by cases q) (fun _ => xs_sub (sub_cons (sub_cons (sub_cons (sub_cons sub_nil)))))) (xs_nil fun h F => ⟨rfl, F⟩)
        · refine EV.cast (ev_comp (P1 := R (pS (keepN rs rs.length))) (ps := (keepN rs rs.length).map PV.str) (b := fun p => tabP (kvsP (hs.map rowP) (singleP rs)) (decS p) i) (F := fun p => p) (ρ' := [("table", TB w a (kvsP (hs.map rowP) (singleP rs))), ("k", R (.int (0 + (i : Int))))]) hR.1 (ev_name rfl) (iter_list hR.1) (by rw [List.length_map]; omega) rfl
            (caps_cons (caps_cons caps_nil)) (fun C => .inl rfl) (fun C p hp s' G' F' => ?_) (fun C p hp hb => ev_name rfl) (fun k p hp hb => ?_)) (by rw [filt_str _ (fun r => tabP (kvsP (hs.map rowP) (singleP rs)) r i)])
          · obtain ⟨r, hr, rfl⟩ := List.mem_map.mp hp
            have hrs : r ∈ singleP rs := by
              have hrk : r ∈ keepN rs rs.length := hr
              rw [Fa.kept] at hrk
              exact needed_mem hrk
            have hbs := kvs_lookup (rows := hs.map rowP) hrs
            refine TestsEB G' F' (eb_bool (EV.cast (p := .bool ((((hs.map rowP).map (takenP1 (trP (patternP r))))[i]?).getD false)) (ev_sub (P1 := R (pB ((hs.map rowP).map (takenP1 (trP (patternP r)))))) (P2 := R (.int (0 + (i : Int)))) (ev_sub (P1 := TB w a (kvsP (hs.map rowP) (singleP rs))) (P2 := R (.str r)) (ev_name rfl) (ev_name rfl) (fun s a b _ ha hb => op_item_tb ha hb (tabP_mem hbs))) (ev_name rfl) (fun s a b _ ha hb => op_item_bools ha (by rw [Int.zero_add] at hb; exact hb) (by simpa using hilt) (by omega))) ?_))
            show _ = PV.bool (tabP (kvsP (hs.map rowP) (singleP rs)) r i)
            unfold tabP
            rw [hbs]; rfl
          · obtain ⟨r, hr, rfl⟩ := List.mem_map.mp hp
            exact not_occ_atom fun l z => by cases z
        · obtain ⟨a, rfl, ha⟩ := sp1 h
          have := op_len_list (f := f) (w := w) (A := A) ha (by rw [List.length_map, one1, one2]; decide)
          rw [List.length_map] at this
          exact this
        · rw [one1, one2]; simp
  · refine xs_last (x_ret G ?_)
    refine ev_cmp (P1 := SoS (keepN rs.reverse rs.reverse.length)) (P2 := SoS (keepN rs rs.length)) (ev_callb (id := "sorted") (ev_blt (v := .builtin "sorted") (fun _ => rfl) (by rfl) (fun h => .bi _)) (evs_cons (P := R (pS (keepN rs.reverse rs.reverse.length)))
      (ev_keepall (hR.weak (by decide)) (fun r hr => (Fa.rg r (List.mem_reverse.mp hr)).1) (by rw [List.length_reverse]; omega) (EV.cast (p := .list (rs.map PV.str).reverse) (ev_sub (P1 := R (pS rs)) (P2 := SL none none (some (-1))) (ev_name rfl) (ev_slice ep_none ep_none (ep_some (ev_neg ev_cint))) (fun s a b G ha hb => op_list_slice G (by rw [List.length_map]; omega) ha hb (by decide) (fun vs r => pick_reverse r))) (by unfold pS; rw [List.map_reverse])) (ev_glob (v := .ref 97) (p := .obj 97) (fun _ => rfl) (fun h => .obj 97 (by decide))) (ev_glob (v := .ref 138) (p := .obj 138) (fun _ => rfl) (fun h => .obj 138 (by decide))) rfl rfl rfl (by intro _; rfl) rfl) evs_nil) (fun s vs G h => ?_))
      (ev_callb (id := "sorted") (ev_blt (v := .builtin "sorted") (fun _ => rfl) (by rfl) (fun h => .bi _)) (evs_cons (P := R (pS (keepN rs rs.length))) (ev_name rfl) evs_nil) (fun s vs G h => ?_)) (fun s a c _ ha hc => ?_)
    · obtain ⟨a, rfl, ha⟩ := sp1 h
      exact op_sorted G ha (by have := (keepN_ok rs.reverse rs.reverse.length).1; rw [List.length_reverse] at this ⊢; omega)
    · obtain ⟨a, rfl, ha⟩ := sp1 h
      exact op_sorted G ha (by omega)
    · obtain ⟨s1, p1, o1, r1⟩ := ha
      obtain ⟨s2, p2, o2, r2⟩ := hc
      have hrev : keepN rs.reverse rs.reverse.length = keepN rs.reverse rs.length := by rw [List.length_reverse]
      rw [hrev] at p1
      have e : s1 = s2 := sorted_uniq ((p1.trans Fa.rev).trans p2.symm) o1 o2
      have := op_eq_strs (f := f) (w := w) (A := A) hu r1 r2
      rw [e] at this
      simpa using this
end Mine

/- C17 -/
open PySem PySem.Spec PySem.Calls PySem.W PyProof.Rows
set_option maxRecDepth 100000
namespace Mine
def tOf (rows : List (List (List Str))) : List Bool := rows.map (takenP1 (trP "*.*.*"))
def lOf (rows : List (List (List Str))) : List Bool := rows.map (takenP1 (trP "*.local"))
def gOf (rows : List (List (List Str))) : List Bool := rows.map (takenP1 figItems)
structure Facts0 (hs rs : List Str) : Prop where
  F : Facts hs rs
  rules : rulesP hs (tOf (hs.map rowP)) (lOf (hs.map rowP)) (gOf (hs.map rowP)) = rs
  ok : ∀ k, k < hs.length → (((tOf (hs.map rowP))[k]?.getD false || (lOf (hs.map rowP))[k]?.getD false) && !((gOf (hs.map rowP))[k]?.getD false)) = true → spOk (hs[k]?.getD "") = true
def fHo : PV → PV
  | .int x => .str (hostOf x)
  | _ => .none
def fRo : PV → PV
  | .str h => pL (rowP h)
  | _ => .none
def fRe : PV → PV
  | .str h => .str (reachP h)
  | _ => .none
theorem fmod_nat (x : Int) : x.fmod 128 = ((x.fmod 128).toNat : Int) := by
  have := Int.fmod_nonneg_of_pos x (show (0:Int) < 128 by decide)
  omega
theorem not_occ_rows {rows : List (List (List Str))} {row : List (List Str)} (hr : row ≠ []) (hm : ∀ m ∈ row, m ≠ []) : ¬ Occ (.list (rows.map pL)) (pL row) := fun o => by
  obtain ⟨m0, row', rfl⟩ : ∃ m row', row = m :: row' := by
    cases row with
    | nil => exact absurd rfl hr
    | cons m r => exact ⟨m, r, rfl⟩
  have hm0 := hm m0 (.head _)
  obtain ⟨y, m', rfl⟩ : ∃ y m', m0 = y :: m' := by
    cases m0 with
    | nil => exact absurd rfl hm0
    | cons y r => exact ⟨y, r, rfl⟩
  -- content is no row
  have key : ∀ l : List (List Str), (∀ m ∈ l, m ≠ []) → l ≠ [] → rows.map pL ≠ l.map pS := fun l hl hn q => by
    cases l with
    | nil => exact hn rfl
    | cons a l =>
      cases rows with
      | nil => cases q
      | cons r rows =>
        simp only [List.map_cons, List.cons.injEq] at q
        have q1 := q.1
        injection q1 with q1
        have ha := hl a (.head _)
        cases a with
        | nil => exact ha rfl
        | cons z a =>
          cases r with
          | nil => cases q1
          | cons b r => simp only [List.map_cons, List.cons.injEq] at q1; cases q1.1
  have key2 : ∀ m : List Str, m ≠ [] → rows.map pL ≠ m.map PV.str := fun m hn q => by
    cases m with
    | nil => exact hn rfl
    | cons z m =>
      cases rows with
      | nil => cases q
      | cons r rows => simp only [List.map_cons, List.cons.injEq] at q; cases q.1
  generalize hrw : ((y :: m') :: row') = row at *
  unfold pL at o
  generalize hA : rows.map (fun rows : List (List Str) => pL rows) = A at *
  cases o with
  | here => exact key row hm (by rw [← hrw]; simp) (by rw [← hA])
  | deep o hmem =>
    obtain ⟨m, hmm, rfl⟩ := List.mem_map.mp hmem
    unfold pS at o
    cases o with
    | here => exact key2 m (hm m hmm) (by rw [← hA])
    | deep o hmem2 =>
      obtain ⟨x, _, rfl⟩ := List.mem_map.mp hmem2
      cases o
theorem rowP_ne {h : Str} (hh : (h == "") = false) : rowP h ≠ [] ∧ ∀ m ∈ rowP h, m ≠ [] := by
  refine ⟨fun q => ?_, fun m hm => ?_⟩
  · unfold rowP signs at q
    simp only [List.map_eq_nil_iff] at q
    have : h = "" := by
      cases h with | mk c =>
      have : c = #[] := by simpa using q
      rw [this]; rfl
    rw [this] at hh
    exact absurd hh (by decide)
  · obtain ⟨x, _, rfl⟩ := List.mem_map.mp hm
    exact meantS_ne x
end Mine

/- C18 -/
open PySem PySem.Spec PySem.Calls PySem.W PyProof.Rows
set_option maxRecDepth 100000
namespace Mine
theorem not_occ_strs {as : List PV} {m : List Str} (ha : ∀ p ∈ as, ∃ l, p = .list l) (hm : m ≠ []) : ¬ Occ (.list as) (pS m) := fun o => by
  unfold pS at o
  generalize hB : m.map PV.str = bs at o
  cases o with
  | here =>
    cases m with
    | nil => exact hm rfl
    | cons z m =>
      cases as with
      | nil => cases hB
      | cons a as =>
        obtain ⟨l, rfl⟩ := ha a (.head _)
        simp only [List.map_cons, List.cons.injEq] at hB
        cases hB.1
  | deep o hmem =>
    rw [← hB] at hmem
    obtain ⟨x, _, rfl⟩ := List.mem_map.mp hmem
    cases o
/-- the script: a plain list of ints, wherever it lies -/
def LI (xs : List Int) : SP := .mk0 (fun h v => ∃ a vs, v = .ref a ∧ h.PlainList a (List.toArray vs) ∧ Rps h vs (xs.map PV.int)) (fun t k ⟨a, vs, e, l, r⟩ => ⟨a, vs, e, PlainList.kp l k t, Rps.kp k t r⟩) (fun _ _ _ _ k ⟨a, vs, e, l, r⟩ => ⟨a, vs, e, PlainList.st l k, Rps.st k r⟩)
theorem op_LI_take {f : Bool} {w : World} {A : Around} {s : Shared} {a b : Value} {xs : List Int} {n : Nat} {value sl : PySem.Expr} (G : Gd w s.heap) (hx : xs.length ≤ 1000000) (ha : (LI xs).P s.heap a) (hb : (SL none (some (n : Int)) none).P s.heap b)
    (hs : ∀ o i, ∃ ops, subscripted sl false o i = operate ops (getItem o i) := by intro _ _; exact ⟨_, rfl⟩) : Ev f w A (subscriptTail value sl a b) (R (.list ((xs.map PV.int).take n))).P s := fun E => by
  obtain ⟨a', ql, qu, qs, rfl, ⟨os, hsl, hc, hd⟩, e1, e2, e3⟩ := hb
  obtain ⟨l, vs, rfl, lst, r⟩ := ha
  obtain ⟨ops, hops⟩ := hs (.ref l) (.ref a')
  have q := r.length
  refine tail_any lst.isList.typeIs slot_list_getitem.lookup (wpAny_getItem_list_slice lst.isList ⟨os, hsl, hc, hd⟩ (e1 ▸ isPart ql) (e2 ▸ isPart qu) (e3 ▸ isPart qs) (by simp) ?_ (by rw [List.size_toArray, q, List.length_map, sizeLine_eq]; omega)) hops
  have k : Kp f s.heap (s.heap.push { cls := .type "list", data := .seq (slicePick vs.toArray none (some (n : Int)) none) }) := .of_keeps fun _ _ e => Heap.get?_push_of_some _ e
  exact ⟨.list G.sz ⟨0, by simpa using Heap.get?_push_size _ rfl⟩ (Rps.kp k G.tb (pick_take r n)), .push'⟩
set_option maxHeartbeats 8000000 in
theorem law_spec (w : World) (xs : List Int) (rs : List Str) (hx : xs.length ≤ 1000) (F0 : Facts0 (hostsP xs) rs) (hfig : Spec83 w 5 119 [.str "*.[0-9]", .list (((hostsP xs).map rowP).map pL)] (pB (gOf ((hostsP xs).map rowP)))) :
    ∀ A s vs, Room 7 A → Gd w s.heap → s.heap.get? 83 = some (tabObj #[]) → SPs s.heap vs [LI xs] → Ev true w A (call (.ref 148) vs) (R (.bool true)).P s := by
  intro A s vs hR G h83 hvs
  have Fa := F0.F
  have hn6 := Fa.hn
  have hrows : ((hostsP xs).map rowP).length = (hostsP xs).length := List.length_map ..
  refine spec_defAt (f := true) (n := 6) (s := s) (args := [LI xs]) (res := R (.bool true)) (fd := fdOf w.params 148) (body := bodyOf w.params 148) (names := ["script"]) rfl rfl rfl ?_ rfl (by decide) (by rfl) ?_ (show (["table", "k", "rules", "rows", "hosts"] : List Str).Nodup by decide) rfl rfl rfl rfl A vs hR G hvs
  · intro vs hl G
    match vs, hl with
    | [v], _ => exact BindsTo.of_eq rfl
  · intro A L hR G s₁ K₁ F₁ E
    have ROw : ∀ {own : List Addr} {a b : Shared}, RO false own a b → RO true own a b := fun x => ⟨x.ex, fun b o n1 n2 _ e => x.keep b o n1 n2 (fun q => by cases q) e⟩
    -- hosts
    refine wpAny_execs_cons (wpAny_mono (Q := fun fl s' => nextP (callEnvC (fdOf w.params 148) L 148) s.heap [("hosts", R (pS (hostsP xs))), ("script", LI xs)] fl s'.heap ∧ Kp false s.heap s'.heap ∧ RO false (ownOf (callEnvC (fdOf w.params 148) L 148) ++ []) s₁ s') ?_ (fun fl s₂ q => ?_) fun _ _ e => e)
    · refine x_set (P := R (pS (hostsP xs))) G ?_ off_any (.inr ⟨rfl, rfl⟩) rfl rfl s₁ K₁ F₁ E
      have e3 : (((xs.map PV.int).take 3).filter (fun _ => true)).map fHo = ((xs.take 3).map hostOf).map PV.str := by
        have e : ((xs.map PV.int).take 3).filter (fun _ => true) = (xs.map PV.int).take 3 := List.filter_eq_self.mpr fun _ _ => rfl
        rw [e, ← List.map_take, List.map_map, List.map_map]
        rfl
      refine EV.cast (ev_bin (P1 := R (pS base3)) (P2 := R (pS ((xs.take 3).map hostOf))) (P := R (.list (base3.map PV.str ++ ((xs.take 3).map hostOf).map PV.str))) (ev_list (ps := base3.map PV.str) (evs_cons ev_cstr (evs_cons ev_cstr (evs_cons ev_cstr evs_nil))) (by decide)) ?_ (fun s a b G ha hb => op_add_list G ha hb (by simp [base3]; omega))) (by unfold hostsP pS; rw [List.map_append])
      refine EV.cast (ev_comp (P1 := R (.list ((xs.map PV.int).take 3))) (ps := (xs.map PV.int).take 3) (b := fun _ => true) (F := fHo) (ρ' := []) hR.1 (ev_sub (P1 := LI xs) (P2 := SL none (some ((3 : Nat) : Int)) none) (ev_name rfl) (ev_slice ep_none (ep_some ev_cint) ep_none) (fun s a b G ha hb => op_LI_take G (by omega) ha hb)) (iter_list hR.1) (by simp; omega) rfl
        caps_nil (fun C => .inl rfl) (fun C p hp s' G' F' => TestsNil) (fun C p hp hb => ?_) (fun k p hp hb => ?_)) (by rw [e3])
      · obtain ⟨x, hx, rfl⟩ := List.mem_map.mp (List.mem_of_mem_take hp)
        exact ev_call (n := 1) (hR.weak (by decide)) (ev_glob (v := .ref 102) (p := .obj 102) (fun _ => rfl) (fun h => .obj 102 (by decide))) (fun _ => rfl) (evs_cons (P := R (.int x)) (ev_name rfl) evs_nil) (host_spec _ w x _ (fmod_nat x))
      · obtain ⟨x, hx, rfl⟩ := List.mem_map.mp (List.mem_of_mem_take hp)
        exact not_occ_atom fun l z => by cases z
    obtain ⟨⟨rfl, F₂⟩, K₂, R₂⟩ := q
    -- rows
    refine wpAny_execs_cons (wpAny_mono (Q := fun fl s' => nextP (callEnvC (fdOf w.params 148) L 148) s.heap [("rows", R (.list (((hostsP xs).map rowP).map pL))), ("hosts", R (pS (hostsP xs))), ("script", LI xs)] fl s'.heap ∧ Kp false s.heap s'.heap ∧ RO false (ownOf (callEnvC (fdOf w.params 148) L 148) ++ []) s₂ s') ?_ (fun fl s₃ q => ?_) fun _ _ e => e)
    · refine x_set (P := R (.list (((hostsP xs).map rowP).map pL))) G ?_ off_any (.inr ⟨rfl, rfl⟩) rfl rfl s₂ K₂ F₂ E
      have e3 : (((hostsP xs).map PV.str).filter (fun _ => true)).map fRo = ((hostsP xs).map rowP).map pL := by
        have e : ((hostsP xs).map PV.str).filter (fun _ => true) = (hostsP xs).map PV.str := List.filter_eq_self.mpr fun _ _ => rfl
        rw [e, List.map_map, List.map_map]
        rfl
      refine EV.cast (ev_comp (P1 := R (pS (hostsP xs))) (ps := (hostsP xs).map PV.str) (b := fun _ => true) (F := fRo) (ρ' := []) hR.1 (ev_name rfl) (iter_list hR.1) (by rw [List.length_map]; omega) rfl
        caps_nil (fun C => .inl rfl) (fun C p hp s' G' F' => TestsNil) (fun C p hp hb => ?_) (fun k p hp hb => ?_)) (by rw [e3])
      · obtain ⟨h, hh, rfl⟩ := List.mem_map.mp hp
        have hlen := gt_len (Fa.hg h hh).1
        have e4 : (((signs h).map PV.str).filter (fun _ => true)).map (fun p => pS (meantS (decS p))) = (rowP h).map pS := by
          have e : ((signs h).map PV.str).filter (fun _ => true) = (signs h).map PV.str := List.filter_eq_self.mpr fun _ _ => rfl
          rw [e, List.map_map]
          unfold rowP
          rw [List.map_map]
          rfl
        refine EV.cast (ev_comp (P1 := R (.str h)) (ps := (signs h).map PV.str) (b := fun _ => true) (F := fun p => pS (meantS (decS p))) (ρ' := []) hR.1 (ev_name rfl) (iter_str hR.1) ?_ rfl
          caps_nil (fun C => .inl rfl) (fun C p hp s' G' F' => TestsNil) (fun C p hp hb => ?_) (fun k p hp hb => ?_)) (by rw [e4]; rfl)
        · rw [List.length_map]
          unfold signs
          rw [List.length_map]
          have : h.cps.toList.length = h.length := by simp [Str.length]
          omega
        · obtain ⟨x, hx, rfl⟩ := List.mem_map.mp hp
          exact ev_call (n := 1) (hR.weak (by decide)) (ev_glob (v := .ref 109) (p := .obj 109) (fun _ => rfl) (fun h => .obj 109 (by decide))) (fun _ => rfl) (evs_cons (P := R (.str x)) (ev_name rfl) evs_nil) (meant_spec _ w x)
        · obtain ⟨x, hx, rfl⟩ := List.mem_map.mp hp
          have hne := meantS_ne x
          refine not_occ_strs (fun p hp => ?_) (meantS_ne _)
          obtain ⟨z, _, rfl⟩ := List.mem_map.mp hp
          exact ⟨_, rfl⟩
      · obtain ⟨h, hh, rfl⟩ := List.mem_map.mp hp
        have hne := rowP_ne (Fa.hg h hh).2.1
        have e : (((hostsP xs).map PV.str).take k).filter (fun _ => true) = ((hostsP xs).take k).map PV.str := by
          rw [List.filter_eq_self.mpr fun _ _ => rfl, List.map_take]
        rw [e, List.map_map]
        have e2 : ((hostsP xs).take k).map (fRo ∘ PV.str) = (((hostsP xs).take k).map rowP).map pL := by rw [List.map_map]; rfl
        rw [e2]
        exact not_occ_rows hne.1 hne.2
    obtain ⟨⟨rfl, F₃⟩, K₃, R₃⟩ := q
    -- rules
    refine wpAny_execs_cons (wpAny_mono (Q := fun fl s' => nextP (callEnvC (fdOf w.params 148) L 148) s.heap [("rules", R (pS rs)), ("rows", R (.list (((hostsP xs).map rowP).map pL))), ("hosts", R (pS (hostsP xs)))] fl s'.heap ∧ Kp false s.heap s'.heap ∧ RO false (ownOf (callEnvC (fdOf w.params 148) L 148) ++ []) s₃ s') ?_ (fun fl s₄ q => ?_) fun _ _ e => e)
    · refine x1_sub (x_set (P := R (pS rs)) G ?_ off_any (.inr ⟨rfl, rfl⟩)) (sub_cons (sub_cons (sub_cons sub_nil))) s₃ K₃ F₃ E
      have e3 : (((hostsP xs).map PV.str).filter (fun _ => true)).map fRe = rs.map PV.str := by
        have e : ((hostsP xs).map PV.str).filter (fun _ => true) = (hostsP xs).map PV.str := List.filter_eq_self.mpr fun _ _ => rfl
        rw [e, List.map_map, Fa.rr, List.map_map]
        rfl
      refine EV.cast (ev_comp (P1 := R (pS (hostsP xs))) (ps := (hostsP xs).map PV.str) (b := fun _ => true) (F := fRe) (ρ' := []) hR.1 (ev_name rfl) (iter_list hR.1) (by rw [List.length_map]; omega) rfl
        caps_nil (fun C => .inl rfl) (fun C p hp s' G' F' => TestsNil) (fun C p hp hb => ?_) (fun k p hp hb => ?_)) (by rw [e3])
      · obtain ⟨h, hh, rfl⟩ := List.mem_map.mp hp
        obtain ⟨g1, g2, g3, _⟩ := Fa.hg h hh
        exact ev_call (n := 2) (hR.weak (by decide)) (ev_glob (v := .ref 64) (p := .obj 64) (fun _ => rfl) (fun h => .obj 64 (by decide))) (fun _ => rfl) (evs_cons (P := R (.str h)) (ev_name rfl) evs_nil) (reach_spec _ w h (gt_ok g1) g3)
      · obtain ⟨h, hh, rfl⟩ := List.mem_map.mp hp
        exact not_occ_atom fun l z => by cases z
    obtain ⟨⟨rfl, F₄⟩, K₄, R₄⟩ := q
    have G₄ := G.kp K₄
    have h83₄ : s₄.heap.get? 83 = some (tabObj #[]) := K₄.keep 83 _ (by decide) (fun q => by cases q) h83
    have hrl : ∀ row ∈ (hostsP xs).map rowP, row.length ≤ 900 := fun row hrow => by
      obtain ⟨h, hh, rfl⟩ := List.mem_map.mp hrow
      exact row_len (gt_len (Fa.hg h hh).1)
    have len3 : ∀ p : Str, p.length ≤ 1000 → (trP p).length ≤ 1000 := fun p hp => by
      have := trN_len p p.length
      have e : trN p p.length = trP p := by
        unfold trN trP
        rw [List.take_of_length_le (by simp [Str.length])]
      rw [e] at this
      omega
    have hrules := rules_spec w (hostsP xs) ((hostsP xs).map rowP) (tOf ((hostsP xs).map rowP)) (lOf ((hostsP xs).map rowP)) (gOf ((hostsP xs).map rowP)) (by omega) (by simp [tOf]) (by simp [lOf]) (by simp [gOf])
      (taken_spec false w "*.*.*" (trP "*.*.*") _ (translate_spec false w "*.*.*" (by decide) (by decide)) (len3 _ (by decide)) (by rw [hrows]; omega) hrl)
      (taken_spec false w "*.local" (trP "*.local") _ (translate_spec false w "*.local" (by decide) (by decide)) (len3 _ (by decide)) (by rw [hrows]; omega) hrl) hfig F0.ok
    rw [F0.rules] at hrules
    have hu : A.units < cLine := by have := hR.2.2; omega
    refine wpAny_execs_cons (wpAny_If (wpAny_isTrue_Compare1 ((ev_name (f := false) (w := w) (A := A) (P := R (pS rs)) rfl).run G K₄ F₄ fun v s₅ hv K₅ F₅ k₅ => ?_) (by with_unfolding_all rfl)))
    refine run_callK (f := false) (n := 126) (G.kp K₅) F₅.vars (ev_glob (v := .ref 126) (p := .obj 126) (fun _ => rfl) (fun h => .obj 126 (by decide))) (fun _ => rfl) (evs_cons (P := R (pS (hostsP xs))) (ev_name rfl) (evs_cons (P := R (.list (((hostsP xs).map rowP).map pL))) (ev_name rfl) evs_nil)) fun s₆ vs G₆ hvs6 k₆ => ?_
    have h83₆ := k₆.kp.keep 83 _ (by decide) (fun q => by cases q) (k₅.kp.keep 83 _ (by decide) (fun q => by cases q) h83₄)
    refine wpAny_mono (hrules A s₆ vs hR G₆ h83₆ (SPs.rps (ps := [pS (hostsP xs), .list (((hostsP xs).map rowP).map pL)]) hvs6) E) (fun u s₇ hu7 => ?_) fun _ _ e => e
    obtain ⟨ru, k₇⟩ := hu7
    have K₆ := K₅.trans k₆.kp
    have F₆ := F₅.kp k₆.kp (G.kp K₅).tb
    have K₇ : Kp true s.heap s₇.heap := K₆.up.trans k₇.kp
    have F₇ := F₆.kp k₇.kp G₆.tb
    have rv7 : Rp s₇.heap v (pS rs) := Rp.kp k₇.kp G₆.tb (Rp.kp k₆.kp (G.kp K₅).tb hv)
    refine wpAny_mono (op_ne_strs (f := true) (w := w) (A := A) hu rv7 ru E) (fun c s₈ h8 => ?_) fun _ _ e => e
    obtain ⟨rc, k₈⟩ := h8
    have hne : (rs != rs) = false := by simp
    rw [hne] at rc
    have rc : Rp s₈.heap c (.bool false) := rc
    cases rc
    refine wpAny_truthy_bool ?_
    have K₈ := K₇.trans k₈.kp
    have F₈ := F₇.kp k₈.kp (G.kp K₇).tb
    refine wpAny_execs_nil ?_
    refine wpAny_mono (law_rest (f := true) (g := s.heap) hR G Fa s₈ K₈ (F₈.sub (sub_cons (sub_cons (sub_cons sub_nil)))) E) (fun fl s₉ q => ⟨q.1, q.2.1, ?_⟩) fun _ _ e => e
    exact (((((((ROw R₂).trans (ROw R₃)).trans (ROw R₄)).trans (ROw (.of k₅))).trans (ROw (.of k₆))).trans (.of k₇)).trans (.of k₈)).trans q.2.2
end Mine

/- C19 -/
open PySem PySem.Spec PySem.Calls PySem.W PyProof.Rows
set_option maxRecDepth 100000
namespace Mine
theorem taken_rest {f : Bool} {w : World} {A : Around} {g : Heap} {L : Addr} {items : List (Option Str)} {rows : List (List (List Str))} (hR : Room 4 A) (G : Gd w g) (hi : items.length ≤ 1000) (hrs : rows.length ≤ 1000) (hr : ∀ row ∈ rows, row.length ≤ 900) :
    XS f w A (callEnvC (fdOf w.params 119) L 119) g [] [("items", R (.list (items.map pO))), ("rows", R (.list (rows.map pL)))] ((bodyOf w.params 119).drop 1) (retP (R (pB (rows.map (takenP1 items))))) := by
  refine xs_last (x_ret G ?_)
  refine EV.cast (ev_comp (P1 := R (.list (rows.map pL))) (ps := rows.map pL) (b := fun _ => true) (F := fun p => .bool (takenP1 items (decL p))) (ρ' := [("items", R (.list (items.map pO)))]) hR.1 (ev_name rfl) (iter_list hR.1) (by rw [List.length_map]; omega) rfl
      (caps_cons caps_nil) (fun C => .inr ⟨rfl, _, rfl, ?_⟩) (fun C p hp s' G' F' => TestsNil) (fun C p hp hb => ?_) (fun i p hp hb => not_occ_atom fun l z => by cases z)) ?_
  · intro q
    simp only [List.mem_singleton, Prod.mk.injEq] at q
    exact absurd q.1 (by decide)
  · obtain ⟨row, hrow, rfl⟩ := List.mem_map.mp hp
    simp only [decL_p]
    have hrl := hr row hrow
    refine ev_cmp (P1 := R (.int row.length)) (P2 := R (pI ((accP row items items.length).map fun n : Nat => (n : Int)))) (ev_callb (id := "len") (ev_blt (v := .builtin "len") (fun _ => rfl) (by rfl) (fun h => .bi _)) (evs_cons (P := R (pL row)) (ev_name rfl) evs_nil) (fun s vs G h => ?_)) ?_ (fun s a c _ ha hc => ?_)
    · obtain ⟨a, rfl, ha⟩ := sp1 h
      have := op_len_list (f := f) (w := w) (A := A) ha (by rw [List.length_map]; omega)
      rw [List.length_map] at this
      exact this
    · rw [← pN_ints]
      refine ev_callS (n := 3) (hR.weak (by decide)) (ev_glob (v := .ref 97) (p := .obj 97) (fun _ => rfl) (fun h => .obj 97 (by decide))) (fun _ => rfl) (evs_cons (P := LamV _ _ _ (C + 1) (pL row)) (ev_lambda ?hcl ?hlk ?hkd ?hrow ?hcode ?hq ?hp) (evs_cons (P := R (.list (items.map pO))) (ev_name rfl) (evs_cons (P := R (pN [0])) (ev_list (ps := [iN 0]) (evs_cons (P := R (.int 0)) ev_cint evs_nil) (by decide)) evs_nil))) ?hS
      case hcl => rfl
      case hlk => rfl
      case hkd => rfl
      case hrow => rfl
      case hcode => rfl
      case hq => kernel_rfl
      case hp => exact ⟨rfl, rfl⟩
      case hS =>
        refine reduce_specN f w (n := 2) (ps := items.map pO) (acc := fun i => pN (accP row items i)) (l0 := [iN 0]) (List.length_map ..) LamV.fn (by rw [List.length_map]; omega) rfl (fun i p hp A s v a b hR G hv ha hb => ?_)
        rw [List.getElem?_map] at hp
        obtain ⟨o, ho, rfl⟩ := Option.map_eq_some_iff.mp hp
        rw [accP_succ ho]
        refine lam_call (n := 1) hR G hv ha hb (fun _ _ _ => rfl) rfl rfl rfl (by decide) rfl rfl rfl (fun A' L fa c' hR' => ?_)
        exact ev_call (n := 1) hR' (ev_glob (v := .ref 114) (p := .obj 114) (fun _ => rfl) (fun h => .obj 114 (by decide))) (fun _ => rfl) (evs_cons (P := R (pN (accP row items i))) (ev_name rfl) (evs_cons (P := R (pO o)) (ev_name rfl) (evs_cons (P := R (pL row)) (ev_name rfl) evs_nil))) (body_call f w (n := 0) hrl i)
    · have := op_in_ints (f := f) (w := w) (A := A) ha hc
      rw [any_ints] at this
      exact this
  · have e : (rows.map pL).filter (fun _ => true) = rows.map pL := List.filter_eq_self.mpr fun _ _ => rfl
    rw [e, List.map_map]
    unfold pB
    rw [List.map_map]
    congr 1
    apply List.map_congr_left
    intro row _
    show PV.bool (takenP1 items (decL (pL row))) = PV.bool (takenP1 items row)
    rw [decL_p]

theorem taken83_spec (w : World) (pat : Str) (items : List (Option Str)) (rows : List (List (List Str))) (ht : Spec83 w 2 88 [.str pat, .none, .str "?"] (.list (items.map pO))) (hi : items.length ≤ 1000) (hrs : rows.length ≤ 1000) (hr : ∀ row ∈ rows, row.length ≤ 900) :
    Spec83 w 5 119 [.str pat, .list (rows.map pL)] (pB (rows.map (takenP1 items))) := by
  intro A s vs hR G h83 hvs
  refine spec_defAt (f := true) (n := 4) (s := s) (args := [R (.str pat), R (.list (rows.map pL))]) (res := R (pB (rows.map (takenP1 items)))) (fd := fdOf w.params 119) (body := bodyOf w.params 119) (names := ["pattern", "rows"]) rfl rfl rfl ?_ rfl (by decide) (by rfl) ?_ (show (["items"] : List Str).Nodup by decide) rfl rfl rfl rfl A vs hR G hvs.sps
  · intro vs hl G
    match vs, hl with
    | [v, u], _ => exact BindsTo.of_eq rfl
  · intro A L hR G s₁ K₁ F₁ E
    have G₁ := G.kp K₁
    have h83₁ := K₁.keep 83 _ (by decide) (fun q => by cases q) h83
    refine wpAny_execs_cons (wpAny_Assign_Name (run_callK (f := false) (n := 88) G₁ F₁.vars (ev_glob (v := .ref 88) (p := .obj 88) (fun _ => rfl) (fun h => .obj 88 (by decide))) (fun _ => rfl) (evs_cons (P := R (.str pat)) (ev_name rfl) (evs_cons (P := R .none) ev_cnone (evs_cons (P := R (.str "?")) ev_cstr evs_nil))) fun s₂ vs G₂ hvs k₂ => ?_) rfl)
    have h83₂ := k₂.kp.keep 83 _ (by decide) (fun q => by cases q) h83₁
    refine wpAny_mono (ht A s₂ vs (hR.weak (by decide)) G₂ h83₂ (SPs.rps (ps := [.str pat, .none, .str "?"]) hvs) E) (fun v s₃ hv => ?_) fun _ _ e => e
    obtain ⟨hv, k₃⟩ := hv
    have K₂ := K₁.trans k₂.kp
    have F₂ := F₁.kp k₂.kp G₁.tb
    have K₃ : Kp true s.heap s₃.heap := K₂.up.trans k₃.kp
    have F₃ := F₂.kp k₃.kp G₂.tb
    refine store_ (f := true) (P := R (.list (items.map pO))) F₃ K₃ hv off_R rfl (.inr ⟨rfl, rfl⟩) fun s₄ K₄ F₄ R₄ _ => ?_
    have ROw : ∀ {own : List Addr} {a b : Shared}, RO false own a b → RO true own a b := fun x => ⟨x.ex, fun b o n1 n2 _ e => x.keep b o n1 n2 (fun q => by cases q) e⟩
    refine wpAny_mono (taken_rest (f := true) (g := s.heap) hR G hi hrs hr s₄ K₄ (F₄.sub (sub_cons (sub_cons sub_nil))) E) (fun fl s₅ q => ⟨q.1, q.2.1, ?_⟩) fun _ _ e => e
    exact (((ROw (.of k₂)).trans (.of k₃)).trans R₄.left).trans q.2.2
end Mine

/- O3 -/
open PySem PySem.Spec PySem.Calls PySem.W PyProof.Rows
set_option maxRecDepth 100000
namespace Mine
section
variable {f : Bool} {w : World} {A : Around} {env : Env} {ρ : Ro} {s : Shared} {a b c d : Value} {x y : Str} {i j : Int} {e t e1 e2 : PySem.Expr} {P : SP} {pos p1 p2 : Pos}
theorem op_ne_str (ha : Rp s.heap a (.str x)) (hb : Rp s.heap b (.str y)) : Ev f w A (compareOp .NotEq a b) (R (.bool (x.cps.toList != y.cps.toList))).P s := fun E => by
  cases ha; cases hb
  exact P.ne_str ⟨.bool _, .refl _⟩
theorem op_gt_str (ha : Rp s.heap a (.str x)) (hb : Rp s.heap b (.str y)) : Ev f w A (compareOp .Gt a b) (R (.bool (decide (y.cps.toList < x.cps.toList)))).P s := fun E => by
  cases ha; cases hb
  exact P.gt_str ⟨.bool _, .refl _⟩
theorem op_notin_sub (ha : Rp s.heap a (.str y)) (hb : Rp s.heap b (.str x)) : Ev f w A (compareOp .NotIn a b) (R (.bool (!(!(Builtin.Str.occurrences x y 0 x.length 1).isEmpty)))).P s := fun E => by
  cases ha; cases hb
  exact P.notIn_str ⟨.bool _, .refl _⟩
def find4 (x y : Str) (i j : Int) : Int := match Builtin.Str.occurrences x y (fromIndex x.length i) (min (fromIndex x.length j) x.length) 1 with | k :: _ => (k : Int) | [] => -1
theorem gives_find4 (x y : Str) (i j : Int) (t u v v2 : Tok) : Gives (Builtin.«str.find» ⟨[.str x t, .str y u, .int i v, .int j v2], []⟩) (.int (find4 x y i j)) := by
  unfold find4
  show Gives (match Builtin.Str.occurrences x y (fromIndex x.length i) (min (fromIndex x.length j) x.length) 1 with | k :: _ => retInt k | [] => (do rule "str.find.not-found"; retInt (-1))) _
  cases Builtin.Str.occurrences x y (fromIndex x.length i) (min (fromIndex x.length j) x.length) 1 with
  | nil => exact .rule (.of_eq rfl)
  | cons k _ => exact .of_eq rfl
theorem m_find4 (ha : Rp s.heap a (.str x)) (hb : Rp s.heap b (.str y)) (hc : Rp s.heap c (.int i)) (hd : Rp s.heap d (.int j)) : Ev f w A (call (.builtin "str.find") [a, b, c, d]) (R (.int (find4 x y i j))).P s := fun E => by
  cases ha; cases hb; cases hc; cases hd
  exact call_gives F.slot_str_find (typeIs_str _ _ _) F.entry_str_find (F.args_str_find_4 _ _ _ _) (gives_find4 x y i j _ _ _ _) ⟨.int _ _, .toks⟩
theorem ev_ifexp {bb : Bool} (ht : EB f w A env ρ t bb) (h1 : bb = true → EV f w A env ρ e1 P) (h2 : bb = false → EV f w A env ρ e2 P) : EV f w A env ρ (.IfExp t e1 e2 pos) P := fun s G F E =>
  wpAny_IfExp (wpAny_mono (ht s G F E) (fun c s₁ hc => by
    obtain ⟨e, k⟩ := hc
    cases e
    cases bb with
    | true => exact wpAny_mono (h1 rfl s₁ (G.kp k.kp) (F.kp k.kp G.tb) E) (fun v s₂ q => ⟨q.1, k.trans q.2⟩) fun _ _ e => e
    | false => exact wpAny_mono (h2 rfl s₁ (G.kp k.kp) (F.kp k.kp G.tb) E) (fun v s₂ q => ⟨q.1, k.trans q.2⟩) fun _ _ e => e) fun _ _ e => e)
theorem ev_fv (h : EV f w A env ρ e (R (.str x))) (hx : x.length ≤ 1000000) : EV f w A env ρ (.FormattedValue e (-1) none pos) (R (.str x)) := fun s G F E =>
  wpAny_FormattedValue_plain (wpAny_mono (h s G F E) (fun v s₁ h₁ => by
    have r : Rp s₁.heap v (.str x) := h₁.1
    cases r
    exact wpAny_formatField_str ⟨.str _ _, h₁.2⟩ ⟨.str _ _, h₁.2.trans .toks⟩ (by rw [sizeLine_eq]; omega)) fun _ _ e => e)
/-- f'[{x}]' -/
theorem ev_joined3 {c1 c2 : Str} {e1 e2 e3 : PySem.Expr} (h1 : EV f w A env ρ e1 (R (.str c1))) (h2 : EV f w A env ρ e2 (R (.str x))) (h3 : EV f w A env ρ e3 (R (.str c2))) (hz : (c1 ++ x ++ c2).length ≤ 1000000)
    (he : evalEach [e1, e2, e3] env = [eval e1 env, eval e2 env, eval e3 env] := by rfl) : EV f w A env ρ (.JoinedStr [e1, e2, e3] pos) (R (.str (c1 ++ x ++ c2))) := fun s G F E => by
  refine wpAny_JoinedStr ?_
  rw [he]
  have hle : c1.length + x.length + c2.length ≤ 1000000 := by
    rw [strLen_append, strLen_append] at hz; exact hz
  have e0 : ∀ z : Str, Str.empty ++ z = z := fun z => by
    cases z with | mk c =>
    show (⟨#[] ++ c⟩ : Str) = ⟨c⟩
    rw [Array.empty_append]
  refine wpAny_mono (h1 s G F E) (fun v1 s₁ q1 => ?_) fun _ _ e => e
  have r1 : Rp s₁.heap v1 (.str c1) := q1.1
  cases r1
  refine ⟨c1, _, rfl, by rw [e0, sizeLine_eq]; omega, ?_⟩
  have G₁ := G.kp q1.2.kp
  have F₁ := F.kp q1.2.kp G.tb
  refine wpAny_mono (h2 s₁ G₁ F₁ E) (fun v2 s₂ q2 => ?_) fun _ _ e => e
  have r2 : Rp s₂.heap v2 (.str x) := q2.1
  cases r2
  refine ⟨x, _, rfl, by rw [e0, strLen_append, sizeLine_eq]; omega, ?_⟩
  have G₂ := G₁.kp q2.2.kp
  have F₂ := F₁.kp q2.2.kp G₁.tb
  refine wpAny_mono (h3 s₂ G₂ F₂ E) (fun v3 s₃ q3 => ?_) fun _ _ e => e
  have r3 : Rp s₃.heap v3 (.str c2) := q3.1
  cases r3
  refine ⟨c2, _, rfl, by rw [e0, strLen_append, strLen_append, sizeLine_eq]; omega, ?_⟩
  rw [e0]
  exact ⟨by rw [strLen_append, strLen_append, sizeLine_eq]; omega, .str _ _, ((q1.2.trans q2.2).trans q3.2).trans .toks⟩
/-- a tuple of texts -/
def TU (ss : List Str) : SP := .mk0 (fun h v => ∃ a vs n, v = .ref a ∧ h.get? a = some { cls := .type "tuple", data := .seq vs n } ∧ StrsAre vs.toList ss) (fun t k ⟨a, vs, n, e, x, r⟩ => ⟨a, vs, n, e, k.get t x (fun ps q => by cases q), r⟩)
  (fun _ _ _ _ k ⟨a, vs, n, e, x, r⟩ => ⟨a, vs, n, e, k.get x (not_frameish (T := "tuple") rfl (fun _ _ q => by cases q) (fun _ q => by cases q)), r⟩)
theorem ev_tuple {es : List PySem.Expr} {k : Nat} {ss : List Str} (h : EVs f w A env ρ es (ss.map fun x => R (.str x))) (hz : ss.length ≤ 1000) : EV f w A env ρ (.Tuple es k pos) (TU ss) := fun s G F E => by
  refine Tuple_ (wpAny_mono (h s pos G F E) (fun vs s₁ q => ?_) fun _ _ e => e)
  obtain ⟨hv, kk⟩ := q
  have hs : StrsAre vs ss := by
    have : ∀ (ss : List Str) (vs : List Value), SPs s₁.heap vs (ss.map fun x => R (.str x)) → StrsAre vs ss := by
      intro ss
      induction ss with
      | nil => intro vs h; cases vs with | nil => exact .nil | cons => exact h.elim
      | cons y l ih =>
        intro vs h
        cases vs with
        | nil => exact h.elim
        | cons v vs =>
          obtain ⟨h1, h2⟩ := h
          have h1 : Rp s₁.heap v (.str y) := h1
          cases h1
          exact .cons _ _ (ih vs h2)
    exact this ss vs hv
  have hl := hs.length
  refine wpAny_newTuple ⟨⟨_, vs.toArray, 0, rfl, Heap.get?_push_size _ rfl, by simpa using hs⟩, kk.trans .push'⟩ (by rw [sizeLine_eq]; omega)
theorem op_in_tu {ss : List Str} (ha : Rp s.heap a (.str x)) (hb : (TU ss).P s.heap b) : Ev f w A (compareOp .In a b) (R (.bool (ss.any (· == x)))).P s := fun E => by
  cases ha
  obtain ⟨t, vs, n, rfl, e, r⟩ := hb
  rename_i tk
  let ee : Value → Bool := fun v => match v with | .str z _ => z == x | _ => false
  have any : ∀ (l : List Value) (ss : List Str), StrsAre l ss → l.any ee = ss.any (· == x) := by
    intro l ss r
    induction r with
    | nil => rfl
    | cons y t _ ih => simp only [List.any_cons, ih]; rfl
  refine SeqAt.in_tupleAt ee ⟨_, e, rfl, n, rfl⟩ (fun y hy => ?_) ⟨?_, .refl _⟩
  · obtain ⟨k, hk, rfl⟩ := Array.mem_iff_getElem.mp hy
    obtain ⟨t', e'⟩ := strs_at r k (by simpa using hk)
    have e'' : vs[k] = .str ((ss[k]?).getD default) t' := by simpa using e'
    rw [e'']
    exact SeqAt.EqAt.str_str _ _ _ _
  · have : vs.any ee = ss.any (· == x) := by rw [← any _ _ r]; simp
    rw [this]; exact .bool _
end
end Mine

/- O4 -/
open PySem PySem.Spec PySem.Calls PySem.W PyProof.Rows
set_option maxRecDepth 100000
namespace Mine
theorem slot_sub : Slot "re.Pattern" "sub" "re.Pattern.sub" :=
  .of (owner := "re.Pattern") (n := "sub") (by rw [typeLookup_type, builtinLookup_eq_fast]; kernel_rfl) (by decide +kernel) (by decide +kernel) (by decide +kernel)
    (by first | exact .inl (by decide +kernel) | exact .inr (by decide +kernel)) (by rw [isSubtype_type]; kernel_rfl)
theorem type_sub : typeOf (.builtin "re.Pattern.sub") = pure (.type "method_descriptor") := by show builtinType _ = _; rw [builtinType_eq_fast]; kernel_rfl
theorem entry_sub : entryFor table "re.Pattern.sub" = some Builtin.«re.Pattern.sub» := entryFor_of_tree (by kernel_rfl)
theorem entry_subloop : entryFor table "re.Pattern.sub.loop" = some Builtin.«re.Pattern.sub.loop» := entryFor_of_tree (by kernel_rfl)
theorem plain_subloop : plainId "re.Pattern.sub.loop" = true := by decide +kernel
theorem args_sub (a b c : Value) : argsOk "re.Pattern.sub" ⟨[a, b, c], []⟩ := by unfold argsOk; kernel_rfl
theorem fn_call : ∃ v, typeLookup (.type "function") "__call__" = pure (some v) := ⟨.builtin "function.__call__", by rw [typeLookup_type, builtinLookup_eq_fast]; kernel_rfl⟩
theorem sub_str_ba : isSubtype (.type "str") (.type "bytearray") = pure false := by rw [isSubtype_type]; kernel_rfl
theorem named_sub (u v : Value) : Builtin.Re.reNamed "re.Pattern.sub" "sub" ["repl", "string", "count"] 2 [u, v] [] = pure [some u, some v, none] := by rfl
def twCode : Array Nat := #[14, 14, 4, 1, 1, 9, 0, 64, 0, 1342177280, 0, 0, 0, 0, 0, 17, 0, 13, 11, 9, 0, 64, 0, 1342177280, 0, 0, 0, 0, 0, 17, 1, 1]
theorem pat69 (P : Params) : ∃ fs sl, (KK P).lookup 69 = some ⟨.type "re.Pattern", none, .fields fs, sl⟩ ∧ fs.getD 5 .none = .ref 68 ∧ Builtin.Re.reRawNat (fs.getD 2 .none) = 1 ∧ Builtin.Re.reRawNat (fs.getD 6 .none) = 0 := ⟨_, _, rfl, rfl, rfl, rfl⟩
theorem pat68 (P : Params) : ∃ ws n sl, (KK P).lookup 68 = some ⟨.type "tuple", none, .seq ws n, sl⟩ ∧ (ws.map Builtin.Re.reRawOf).map (·.toNat) = twCode := ⟨_, _, _, rfl, by decide +kernel⟩
theorem tw_none : isDone (drv 400 (Sre.forSearch twCode ("0-9" : Str).cps 1 0 3 false)).outcome = some false ∧ (Sre.forSearch twCode ("0-9" : Str).cps 1 0 3 false).outcome.isSome = false := by decide +kernel
theorem if_not {α : Type} {M : Model} {A : Around} {E : Value → Shared → Prop} {s : Shared} {c : Bool} {a b : Sem α} {Q : α → Shared → Prop} (hc : c = false) (h : wpAny M A b Q E s) : wpAny M A (if c = true then a else b) Q E s := by
  subst hc
  exact h
section
variable {f : Bool} {w : World} {A : Around} {s : Shared} {x : Str} {t : Tok}
theorem wp_whole {A : Around} {E : Value → Shared → Prop} {Q : Builtin.Re.ReTarget → Shared → Prop} (G : Gd w s.heap) (h : Q ⟨.ref 69, .str x t, twCode, x.cps, 0, 1, 0, x.cps.size⟩ s) :
    wpAny (model prg w) A (Builtin.Re.reWholeTarget (.ref 69) (.str x t)) Q E s := by
  obtain ⟨fs, sl, e1, e2, e3, e4⟩ := pat69 w.params
  obtain ⟨ws, n, sl2, e5, e6⟩ := pat68 w.params
  unfold Builtin.Re.reWholeTarget
  refine wpAny_bind (wpAny_fieldsOf (G.K _ _ e1) rfl ?_)
  refine wpAny_bind (m := Builtin.Re.reTextOf _) (wpAny_bind (wpAny_pure (wpAny_pure ?_)))
  simp only [e4]
  refine wpAny_bind (m := Builtin.Re.reNoCollectionInside _ _) (wpAny_pure ?_)
  refine wpAny_bind (m := Builtin.Re.reRawItems _) ?_
  rw [e2]
  refine wpAny_bind (wpAny_seqItems (G.K _ _ e5) rfl ?_)
  refine wpAny_pure (wpAny_pure ?_)
  simp only [Option.getD_some, e6, e3]
  exact h
theorem gm_pat69 {name : Str} {id : String} {pl : Sem Bool} (slot : Slot "re.Pattern" name id) (hty : typeOf (.builtin id) = pure (.type "method_descriptor")) : ∀ s v, Gd w s.heap → (R (.obj 69)).P s.heap v → ∀ Q E, Q (Value.builtin id, [v]) s → wpAny (model prg w) A (getMethod v name pl) Q E s := fun s v G r Q E h => by
  have r : Rp s.heap v (.obj 69) := r
  cases r
  obtain ⟨fs, sl, e1, e2, e3, e4⟩ := pat69 w.params
  exact getMethod_builtin ⟨_, G.K _ _ e1, rfl⟩ plainAttrs_Pattern slot hty (fun a e => by cases e; exact ⟨_, G.K _ _ e1, rfl⟩) h
theorem op_sub {a u v : Value} (G : Gd w s.heap) (ha : Rp s.heap a (.obj 69)) (hu : ∃ d o fd, u = .ref d ∧ s.heap.get? d = some o ∧ o.cls = .type "function" ∧ o.data = .func fd) (hv : Rp s.heap v (.str "0-9")) :
    Ev f w A (call (.builtin "re.Pattern.sub") [a, u, v]) (R (.str "0-9")).P s := fun E => by
  cases ha; cases hv
  rename_i tk
  obtain ⟨d, o, fd, rfl, ho, hcls, hd⟩ := hu
  obtain ⟨fs, sl, e1, e2, e3, e4⟩ := pat69 w.params
  obtain ⟨cf, hcf⟩ := fn_call
  refine wpAny_call (codeAny_call_builtin slot_sub.plain entry_sub (slot_sub.check _ _ _ _ _ _ _ _ ⟨_, G.K _ _ e1, rfl⟩ (args_sub _ _ _) ?_))
  unfold Builtin.«re.Pattern.sub» Builtin.Re.reSubstitute
  simp only []
  rw [named_sub]
  refine wpAny_bind (wpAny_pure ?_)
  simp only []
  refine wpAny_bind (wpAny_pure ?_)
  refine wpAny_bind (wpAny_specialOf (T := "function") ⟨o, ho, hcls⟩ hcf ?_)
  simp only [Option.isSome_some, if_true]
  refine wpAny_bind (wpAny_pure ?_)
  refine wpAny_bind (wpAny_pure ?_)
  simp only []
  refine wpAny_bind (wpAny_holding (wp_whole G ?_))
  refine if_so rfl ?_
  have hTs : s.TypeIs (.str ("0-9" : Str) tk) "str" := typeIs_str _ _ _
  refine wpAny_bind (m := Builtin.Re.reNotHeld _ _) ?_
  unfold Builtin.Re.reNotHeld
  refine wpAny_bind (wpAny_isInstance hTs sub_str_ba ?_)
  simp only [Bool.false_eq_true, if_false]
  refine wpAny_pure ?_
  refine wpAny_bind (wpAny_newObj_type (T := "list") (data := .seq #[]) ?_ (show (0 : Nat) ≤ sizeLine from Nat.zero_le _))
  have k₁ : Kps f s { s with heap := s.heap.push { cls := .type "list", data := .seq #[] } } := .push'
  have G₁ := G.kp k₁.kp
  have hD : (s.heap.push { cls := .type "list", data := .seq #[] }).get? s.heap.objs.size = some { cls := .type "list", data := .seq #[] } := Heap.get?_push_size _ rfl
  generalize hsz : s.heap.objs.size = D at *
  generalize hH : s.heap.push { cls := .type "list", data := .seq #[] } = H at *
  have hDn : s.heap.get? D = none := get_none_of_le (Nat.le_of_eq hsz)
  refine wpAny_pure ⟨plainId_quiet plain_subloop _, codeAny_builtin entry_subloop ?_⟩
  rw [Around.under_plainId plain_subloop _]
  unfold Builtin.«re.Pattern.sub.loop»
  simp only [rawInt]
  refine wpAny_bind (wp_whole (s := { s with heap := H }) G₁ ?_)
  simp only []
  rw [if_neg (by decide)]
  refine wpAny_bind (if_not (by decide) ?_)
  unfold Builtin.Re.reNextFound
  have hsize : ("0-9" : Str).cps.size = 3 := by decide
  simp only [hsize]
  obtain ⟨tw1, tw2⟩ := tw_none
  refine wp_toEnd (b := false) rfl tw1 tw2 ?_
  simp only [Bool.false_eq_true, if_false]
  rw [if_pos (by decide)]
  have hsx : (⟨("0-9" : Str).cps.extract (Int.toNat 0) 3⟩ : Str) = "0-9" := by decide
  have hjn : (⟨("0-9" : Str).cps.extract 0 0⟩ : Str) = "" := by decide
  refine wpAny_bind (m := Builtin.Re.reSlice _ _ _ _) ?_
  unfold Builtin.Re.reSlice
  refine if_so rfl ?_
  rw [hsx]
  refine wpAny_mkStr ?_ (by rw [sizeLine_eq]; exact Nat.le_of_ble_eq_true rfl)
  refine wpAny_bind (wpAny_updateSeq (s := { s with heap := H, toks := s.toks + 1 }) hD rfl ?_)
  have hD2 := Heap.get?_update_self (Obj.mapSeq (·.push (Value.str ("0-9" : Str) s.toks))) hD rfl
  generalize hH2 : H.update D (Obj.mapSeq (·.push (Value.str ("0-9" : Str) s.toks))) = H2 at *
  have sb : Heap.SameBut D H H2 := hH2 ▸ Heap.SameBut.update ..
  refine wpAny_bind (if_so rfl ?_)
  rw [hjn]
  refine wpAny_mkStr ?_ (by rw [sizeLine_eq]; exact Nat.le_of_ble_eq_true rfl)
  refine wpAny_bind (wpAny_seqItems (s := { s with heap := H2, toks := s.toks + 1 + 1 }) hD2 rfl ?_)
  refine if_not rfl ?_
  refine wpAny_bind ?_
  show wpAny _ _ (call (.builtin "str.join") [_, .ref D]) _ _ _
  have hl : H2.IsList D #[Value.str ("0-9" : Str) s.toks] := ⟨_, hD2, rfl, _, rfl⟩
  refine join_listW (ys := ["0-9"]) hl (.cons _ _ .nil) (by decide) (by decide) fun t' k => ?_
  have hj : Txt.join ("" : Str) ["0-9"] = "0-9" := by decide
  rw [hj]
  refine wpAny_pure ⟨.str _ _, .of_keeps fun b o e => ?_⟩
  refine sb.extBut b o (fun q => ?_) (hH ▸ Heap.get?_push_of_some _ e)
  rw [q, hDn] at e; cases e
end
end Mine

/- O5 -/
open PySem PySem.Spec PySem.Calls PySem.W PyProof.Rows
set_option maxRecDepth 100000
namespace Mine
section
variable {w : World} {A : Around} {E : Value → Shared → Prop} {s : Shared} {env : Env} {x y z : Str}
theorem eval_replace {Q : Value → Shared → Prop} {o : PySem.Expr} {k1 k2 : Nat} {ap p1 p2 pos : Pos} (ho : wpAny (model prg w) A (eval o env) (fun v s₁ => ∃ t, v = .str x t ∧ ∀ tk, Q (.str x t) { s₁ with toks := tk }) E s)
    (hocc : (Builtin.Str.occurrences x y 0 x.length (x.length + 1)).isEmpty = true) (ha : attributeBase o "replace" env (eval o env) = eval o env := by rfl) (hl : (ap.endLine == pos.line) = true := by rfl) :
    wpAny (model prg w) A (eval (.Call (.Attribute o "replace" ap) [.Constant (.str y) k1 p1, .Constant (.str z) k2 p2] [] pos) env) Q E s := by
  refine MethodCall_ (wpAny_mono ho (fun v s₁ h => ?_) fun _ _ e => e) (hc_meth ha rfl hl)
  obtain ⟨t, rfl, hQ⟩ := h
  refine getMethod_builtin (typeIs_str _ _ _) F.plainAttrs_str F.slot_str_replace F.type_str_replace (fun a e => by cases e) ?_
  refine callWith_method1 ?_ rfl rfl
  show wpAny _ _ (spliced ((false, eval (.Constant (.str y) k1 p1) env) :: backTo pos (starEach [.Constant (.str z) k2 p2] env))) _ _ _
  refine spliced_cons (Constant_str ?_)
  show wpAny _ _ (spliced ((false, eval (.Constant (.str z) k2 p2) env) :: backTo pos (starEach [] env))) _ _ _
  refine spliced_cons (Constant_str (spliced_nil ?_))
  refine call_gives F.slot_str_replace (typeIs_str _ _ _) F.entry_str_replace (F.args_str_replace_3 _ _ _) (gives_str_replace x y z _ _ _ fun q => by rw [hocc] at q; cases q) ?_
  rw [if_pos (by rw [hocc]; rfl)]
  exact hQ _
end
end Mine

/- P1 -/
open PySem PySem.Spec PySem.Calls PySem.W PyProof.Rows
set_option maxRecDepth 100000
namespace Mine
/-- a forest of rules -/
structure Forest (V : List Str) : Prop where
  refl : ∀ a ∈ V, udmL a a = true
  anti : ∀ a ∈ V, ∀ b ∈ V, udmL a b = true → udmL b a = true → a = b
  trans : ∀ a ∈ V, ∀ b ∈ V, ∀ c ∈ V, udmL a b = true → udmL b c = true → udmL a c = true
  tree : ∀ a ∈ V, ∀ b ∈ V, ∀ c ∈ V, udmL a b = true → udmL a c = true → udmL b c = true ∨ udmL c b = true
structure KInv (l K : List Str) : Prop where
  nodup : K.Nodup
  mem : ∀ r ∈ K, r ∈ l
  anti : ∀ a ∈ K, ∀ b ∈ K, udmL a b = true → a = b
  cover : ∀ r ∈ l, ∃ k ∈ K, udmL r k = true
theorem KInv.nil : KInv [] [] := ⟨.nil, fun _ h => h, fun _ h => (by cases h), fun _ h => (by cases h)⟩
theorem filter_isEmpty_false {α : Type} {l : List α} {p : α → Bool} (h : (l.filter p).isEmpty = false) : ∃ x ∈ l, p x = true := by
  cases e : l.filter p with
  | nil => rw [e] at h; cases h
  | cons x t =>
    have : x ∈ l.filter p := by rw [e]; exact .head _
    exact ⟨x, (List.mem_filter.mp this).1, (List.mem_filter.mp this).2⟩
theorem filter_isEmpty_true {α : Type} {l : List α} {p : α → Bool} (h : (l.filter p).isEmpty = true) : ∀ x ∈ l, p x = false := fun x hx => by
  have e : l.filter p = [] := List.isEmpty_iff.mp h
  cases hp : p x with
  | false => rfl
  | true =>
    have : x ∈ l.filter p := List.mem_filter.mpr ⟨hx, hp⟩
    rw [e] at this; cases this
theorem KInv.step {V l K : List Str} {r : Str} (FV : Forest V) (hl : ∀ x ∈ l, x ∈ V) (hr : r ∈ V) (I : KInv l K) : KInv (l ++ [r]) (keepP K r) := by
  have hK : ∀ x ∈ K, x ∈ V := fun x hx => hl x (I.mem x hx)
  unfold keepP
  split
  case isFalse h =>
    obtain ⟨k, hk, hle⟩ := filter_isEmpty_false (by simpa using h)
    refine ⟨I.nodup, fun x hx => List.mem_append_left _ (I.mem x hx), I.anti, fun x hx => ?_⟩
    rcases List.mem_append.mp hx with hx | hx
    · exact I.cover x hx
    · rw [List.mem_singleton.mp hx]; exact ⟨k, hk, hle⟩
  case isTrue h =>
    have hno := filter_isEmpty_true h
    have hnr : r ∉ K := fun hk => by have := hno r hk; rw [FV.refl r hr] at this; cases this
    refine ⟨?_, fun x hx => ?_, fun a ha b hb hab => ?_, fun x hx => ?_⟩
    · refine List.nodup_append.mpr ⟨I.nodup.filter _, by simp, fun a ha b hb => ?_⟩
      rw [List.mem_singleton.mp hb]
      rintro rfl
      exact hnr (List.mem_filter.mp ha).1
    · rcases List.mem_append.mp hx with hx | hx
      · exact List.mem_append_left _ (I.mem x (List.mem_filter.mp hx).1)
      · exact List.mem_append_right _ hx
    · rcases List.mem_append.mp ha with ha | ha <;> rcases List.mem_append.mp hb with hb | hb
      · exact I.anti a (List.mem_filter.mp ha).1 b (List.mem_filter.mp hb).1 hab
      · rw [List.mem_singleton.mp hb] at hab
        have := (List.mem_filter.mp ha).2
        rw [hab] at this; cases this
      · rw [List.mem_singleton.mp ha] at hab
        have := hno b (List.mem_filter.mp hb).1
        rw [hab] at this; cases this
      · rw [List.mem_singleton.mp ha, List.mem_singleton.mp hb]
    · have rr : ∃ k ∈ (K.filter fun one => !udmL one r) ++ [r], udmL r k = true := ⟨r, List.mem_append_right _ (.head _), FV.refl r hr⟩
      rcases List.mem_append.mp hx with hx | hx
      · obtain ⟨k, hk, hle⟩ := I.cover x hx
        cases hkr : udmL k r with
        | true => exact ⟨r, List.mem_append_right _ (.head _), FV.trans x (hl x hx) k (hK k hk) r hr hle hkr⟩
        | false => exact ⟨k, List.mem_append_left _ (List.mem_filter.mpr ⟨hk, by rw [hkr]; rfl⟩), hle⟩
      · rw [List.mem_singleton.mp hx]; exact rr
theorem foldl_inv {V : List Str} (FV : Forest V) : ∀ (l : List Str), (∀ x ∈ l, x ∈ V) → KInv l (l.foldl keepP []) := by
  have key : ∀ (t l K : List Str), (∀ x ∈ l ++ t, x ∈ V) → KInv l K → KInv (l ++ t) (t.foldl keepP K) := by
    intro t
    induction t with
    | nil => intro l K h I; simpa using I
    | cons r t ih =>
      intro l K h I
      rw [List.foldl_cons, show l ++ r :: t = (l ++ [r]) ++ t by simp]
      exact ih (l ++ [r]) _ (fun x hx => h x (by simpa using hx)) (I.step FV (fun x hx => h x (List.mem_append_left _ hx)) (h r (by simp)))
  intro l h
  exact key l [] [] (by simpa using h) .nil
theorem KInv.max {V l K : List Str} (FV : Forest V) (hl : ∀ x ∈ l, x ∈ V) (I : KInv l K) (r : Str) : r ∈ K ↔ r ∈ l ∧ ∀ x ∈ l, udmL r x = true → x = r := by
  constructor
  · intro hr
    refine ⟨I.mem r hr, fun x hx hrx => ?_⟩
    obtain ⟨k, hk, hxk⟩ := I.cover x hx
    have hrl := hl r (I.mem r hr)
    have hkl := hl k (I.mem k hk)
    have e := I.anti r hr k hk (FV.trans r hrl x (hl x hx) k hkl hrx hxk)
    rw [← e] at hxk
    exact FV.anti x (hl x hx) r hrl hxk hrx
  · rintro ⟨hr, hm⟩
    obtain ⟨k, hk, hrk⟩ := I.cover r hr
    rw [← hm k (I.mem k hk) hrk]; exact hk
theorem singleP_snoc (l : List Str) (r : Str) : singleP (l ++ [r]) = singleP l ++ (if l.any (· == r) then [] else [r]) := by
  unfold singleP
  rw [List.length_append, List.length_singleton, List.range_succ, List.filter_append, List.map_append]
  congr 1
  · have e : (List.range l.length).filter (fun k => !(((l ++ [r]).take k).any (· == (l ++ [r])[k]?.getD ""))) = (List.range l.length).filter (fun k => !((l.take k).any (· == l[k]?.getD ""))) := by
      apply List.filter_congr
      intro k hk
      have hk := List.mem_range.mp hk
      rw [List.take_append_of_le_length (by omega), List.getElem?_append_left hk]
    rw [e]
    apply List.map_congr_left
    intro k hk
    have hk := List.mem_range.mp (List.mem_filter.mp hk).1
    rw [List.getElem?_append_left hk]
  · have e1 : (l ++ [r]).take l.length = l := by rw [List.take_append_of_le_length (by omega), List.take_length]
    have e2 : (l ++ [r])[l.length]?.getD "" = r := by simp
    rw [List.filter_cons, List.filter_nil, e1, e2]
    cases l.any (· == r) with
    | true => rfl
    | false => simp
theorem singleP_mem_iff : ∀ (l : List Str) (r : Str), r ∈ singleP l ↔ r ∈ l := by
  have key : ∀ (t l : List Str), (∀ r, r ∈ singleP l ↔ r ∈ l) → ∀ r, r ∈ singleP (l ++ t) ↔ r ∈ l ++ t := by
    intro t
    induction t with
    | nil => intro l h r; simpa using h r
    | cons x t ih =>
      intro l h r
      rw [show l ++ x :: t = (l ++ [x]) ++ t by simp]
      refine ih (l ++ [x]) (fun y => ?_) r
      rw [singleP_snoc, List.mem_append, List.mem_append, h y]
      split
      case isTrue hx =>
        constructor
        · rintro (q | q)
          · exact .inl q
          · cases q
        · rintro (q | q)
          · exact .inl q
          · rw [List.mem_singleton.mp q]
            obtain ⟨z, hz, e⟩ := List.any_eq_true.mp hx
            rw [← beq_iff_eq.mp e]; exact .inl hz
      case isFalse hx => rfl
  intro l r
  have := key l [] (fun r => by simp [singleP]) r
  simpa using this
theorem singleP_nodup : ∀ (l : List Str), (singleP l).Nodup := by
  have key : ∀ (t l : List Str), (singleP l).Nodup → (singleP (l ++ t)).Nodup := by
    intro t
    induction t with
    | nil => intro l h; simpa using h
    | cons x t ih =>
      intro l h
      rw [show l ++ x :: t = (l ++ [x]) ++ t by simp]
      refine ih (l ++ [x]) ?_
      rw [singleP_snoc]
      split
      · simpa using h
      case isFalse hx =>
        refine List.nodup_append.mpr ⟨h, by simp, fun a ha b hb => ?_⟩
        rw [List.mem_singleton.mp hb]
        rintro rfl
        exact hx (List.any_eq_true.mpr ⟨a, (singleP_mem_iff l a).mp ha, by simp⟩)
  intro l
  have := key l [] (by simp [singleP])
  simpa using this
theorem keep_sublist {V : List Str} (FV : Forest V) : ∀ (l : List Str), (∀ x ∈ l, x ∈ V) → (l.foldl keepP []).Sublist (singleP l) := by
  have key : ∀ (t l K : List Str), (∀ x ∈ l ++ t, x ∈ V) → KInv l K → K.Sublist (singleP l) → (t.foldl keepP K).Sublist (singleP (l ++ t)) := by
    intro t
    induction t with
    | nil => intro l K h I S; simpa using S
    | cons r t ih =>
      intro l K h I S
      rw [List.foldl_cons, show l ++ r :: t = (l ++ [r]) ++ t by simp]
      refine ih (l ++ [r]) _ (fun x hx => h x (by simpa using hx)) (I.step FV (fun x hx => h x (List.mem_append_left _ hx)) (h r (by simp))) ?_
      rw [singleP_snoc]
      unfold keepP
      split
      case isFalse => exact S.trans (List.sublist_append_left _ _)
      case isTrue he =>
        have hno := filter_isEmpty_true he
        split
        case isTrue hx =>
          obtain ⟨z, hz, e⟩ := List.any_eq_true.mp hx
          have e := beq_iff_eq.mp e
          obtain ⟨k, hk, hle⟩ := I.cover z hz
          rw [e, hno k hk] at hle
          cases hle
        case isFalse => exact ((List.filter_sublist (l := K)).trans S).append (List.Sublist.refl _)
  intro l h
  have := key l [] [] (by simpa using h) .nil (by simp)
  simpa using this
theorem sublist_filter {K l : List Str} (h : K.Sublist l) (hd : l.Nodup) : K = l.filter (fun r => K.any (· == r)) := by
  induction h with
  | slnil => rfl
  | cons x h ih =>
    rename_i K l
    have hx := List.nodup_cons.mp hd
    have : (K.any (· == x)) = false := by
      cases e : K.any (· == x) with
      | false => rfl
      | true =>
        obtain ⟨z, hz, e⟩ := List.any_eq_true.mp e
        rw [← beq_iff_eq.mp e] at hx
        exact absurd (h.subset hz) hx.1
    rw [List.filter_cons, this]
    simpa using ih hx.2
  | cons_cons x h ih =>
    rename_i K l
    have hx := List.nodup_cons.mp hd
    rw [List.filter_cons]
    have e1 : ((x :: K).any (· == x)) = true := by simp
    rw [e1, if_pos rfl]
    congr 1
    refine (ih hx.2).trans (List.filter_congr fun y hy => ?_)
    rw [List.any_cons]
    have : (x == y) = false := by
      apply beq_eq_false_iff_ne.mpr
      rintro rfl
      exact hx.1 hy
    rw [this]; rfl
theorem bits : ∀ (n : Nat) (p : Nat → Bool), ∃ m, m < 2 ^ n ∧ ∀ j, j < n → (m / 2 ^ j % 2 == 1) = p j := by
  intro n
  induction n with
  | zero => intro p; exact ⟨0, by decide, fun j h => absurd h (Nat.not_lt_zero _)⟩
  | succ n ih =>
    intro p
    obtain ⟨m, hm, hb⟩ := ih (fun j => p (j + 1))
    refine ⟨2 * m + (if p 0 then 1 else 0), ?_, fun j hj => ?_⟩
    · rw [Nat.pow_succ]; split <;> omega
    · cases j with
      | zero =>
        rw [Nat.pow_zero, Nat.div_one]
        cases p 0 with
        | true => simp
        | false => simp
      | succ j =>
        rw [← hb j (by omega), Nat.pow_succ, Nat.mul_comm (2 ^ j) 2, ← Nat.div_div_eq_div_mul]
        have : (2 * m + (if p 0 then 1 else 0)) / 2 = m := by split <;> omega
        rw [this]
theorem chosen_iff {single : List Str} {m : Nat} {r : Str} : r ∈ chosenP single m ↔ ∃ j, j < single.length ∧ (m / 2 ^ j % 2 == 1) = true ∧ single[j]?.getD "" = r := by
  unfold chosenP
  rw [List.mem_map]
  constructor
  · rintro ⟨j, hj, e⟩
    obtain ⟨h1, h2⟩ := List.mem_filter.mp hj
    exact ⟨j, List.mem_range.mp h1, h2, e⟩
  · rintro ⟨j, h1, h2, e⟩
    exact ⟨j, List.mem_filter.mpr ⟨List.mem_range.mpr h1, h2⟩, e⟩
theorem needN_mem {kvs : List (Str × List Bool)} {single : List Str} {count : Nat} {r : Str} (i : Nat) : r ∈ needN kvs single count i ↔ r ∈ single ∧ ∀ m, m < i → (bareP kvs count (chosenP single m)).isEmpty = true → r ∈ chosenP single m := by
  induction i with
  | zero => simp [needN]
  | succ i ih =>
    rw [needN_succ]
    unfold needStep
    split
    case isTrue h =>
      rw [List.mem_filter, ih]
      constructor
      · rintro ⟨⟨h1, h2⟩, h3⟩
        refine ⟨h1, fun m hm hb => ?_⟩
        rcases Nat.lt_succ_iff_lt_or_eq.mp hm with q | q
        · exact h2 m q hb
        · rw [q]
          obtain ⟨z, hz, e⟩ := List.any_eq_true.mp h3
          rw [← beq_iff_eq.mp e]; exact hz
      · rintro ⟨h1, h2⟩
        refine ⟨⟨h1, fun m hm hb => h2 m (by omega) hb⟩, List.any_eq_true.mpr ⟨r, h2 i (by omega) h, by simp⟩⟩
    case isFalse h =>
      rw [ih]
      constructor
      · rintro ⟨h1, h2⟩
        refine ⟨h1, fun m hm hb => ?_⟩
        rcases Nat.lt_succ_iff_lt_or_eq.mp hm with q | q
        · exact h2 m q hb
        · rw [q] at hb; exact absurd hb h
      · rintro ⟨h1, h2⟩
        exact ⟨h1, fun m hm hb => h2 m (by omega) hb⟩
theorem needN_filter {kvs : List (Str × List Bool)} {single : List Str} {count : Nat} (i : Nat) : (needN kvs single count i).Sublist single := by
  induction i with
  | zero => simp [needN]
  | succ i ih =>
    rw [needN_succ]
    unfold needStep
    split
    · exact List.filter_sublist.trans ih
    · exact ih
theorem sublist_ext {K K' l : List Str} (h : K.Sublist l) (h' : K'.Sublist l) (hd : l.Nodup) (e : ∀ r, r ∈ K ↔ r ∈ K') : K = K' := by
  rw [sublist_filter h hd, sublist_filter h' hd]
  apply List.filter_congr
  intro r _
  have : ∀ (L : List Str), L.any (· == r) = true ↔ r ∈ L := fun L => by
    rw [List.any_eq_true]
    constructor
    · rintro ⟨z, hz, q⟩; rw [← beq_iff_eq.mp q]; exact hz
    · intro q; exact ⟨r, q, by simp⟩
  rw [Bool.eq_iff_iff, this, this]
  exact e r
end Mine

/- P2 -/
open PySem PySem.Spec PySem.Calls PySem.W PyProof.Rows
set_option maxRecDepth 100000
namespace Mine
abbrev cl (x : Str) : List Nat := x.cps.toList
theorem cl_inj {x y : Str} (h : cl x = cl y) : x = y := by
  cases x with | mk a =>
  cases y with | mk b =>
  have : a = b := Array.toList_inj.mp h
  rw [this]
theorem cl_beq (x y : Str) : (x == y) = (cl x == cl y) := by
  rw [Bool.eq_iff_iff, beq_iff_eq, beq_iff_eq]
  exact ⟨fun h => by rw [h], cl_inj⟩
def ip7 (a : List Nat) : Bool := [46, 55].isSuffixOf a
def dotL : List Nat → Bool
  | [] => false
  | c :: _ => c == 46
def leL (a b : List Nat) : Bool := if ip7 a || ip7 b then a == b else if dotL b then b.isSuffixOf a else a == b
theorem ends_cl (x y : Str) : Txt.endswith x y = (cl y).isSuffixOf (cl x) := by
  have hx : x.length = (cl x).length := by simp [Str.length, cl]
  have hy : y.length = (cl y).length := by simp [Str.length, cl]
  rw [Bool.eq_iff_iff, List.isSuffixOf_iff_suffix, List.suffix_iff_eq_drop]
  unfold Txt.endswith
  rw [StrLaws.subAt_eq, Bool.and_eq_true, decide_eq_true_iff, beq_iff_eq, hx, hy]
  show _ ∧ List.take (cl y).length (List.drop _ (cl x)) = cl y ↔ _
  constructor
  · rintro ⟨h1, h2⟩
    rw [List.take_of_length_le (by rw [List.length_drop]; omega)] at h2
    exact h2.symm
  · intro h
    have hl : (cl y).length ≤ (cl x).length := by
      have := congrArg List.length h
      rw [List.length_drop] at this
      omega
    refine ⟨by omega, ?_⟩
    rw [List.take_of_length_le (by rw [List.length_drop]; omega)]
    exact h.symm
theorem dot_cl (y : Str) : Txt.startswith y "." = dotL (cl y) := by
  unfold Txt.startswith
  rw [StrLaws.subAt_eq, Bool.eq_iff_iff, Bool.and_eq_true, decide_eq_true_iff, beq_iff_eq]
  show (0 + 1 ≤ y.length ∧ List.take 1 (List.drop 0 (cl y)) = [46]) ↔ _
  have hy : y.length = (cl y).length := by simp [Str.length, cl]
  rw [hy]
  generalize cl y = l
  cases l with
  | nil => simp [dotL]
  | cons c l => simp [dotL]
theorem udm_leL {a b : Str} (ha : ip a = ip7 (cl a)) (hb : ip b = ip7 (cl b)) : udmL a b = leL (cl a) (cl b) := by
  unfold udmL leL
  rw [ha, hb, dot_cl, ends_cl, cl_beq]
  cases ip7 (cl a) <;> cases ip7 (cl b) <;> cases dotL (cl b) <;> cases (cl b).isSuffixOf (cl a) <;> cases (cl a == cl b) <;> rfl
theorem leL_refl (a : List Nat) : leL a a = true := by
  unfold leL
  split
  · simp
  · split
    · rw [List.isSuffixOf_iff_suffix]; exact List.suffix_refl a
    · simp
theorem leL_cases {a b : List Nat} (h : leL a b = true) : a = b ∨ (ip7 a = false ∧ ip7 b = false ∧ dotL b = true ∧ b <:+ a) := by
  unfold leL at h
  split at h
  · exact .inl (beq_iff_eq.mp h)
  · rename_i hn
    split at h
    · rename_i hd
      simp only [Bool.or_eq_true, not_or, Bool.not_eq_true] at hn
      exact .inr ⟨hn.1, hn.2, hd, List.isSuffixOf_iff_suffix.mp h⟩
    · exact .inl (beq_iff_eq.mp h)
theorem leL_of {a b : List Nat} (h1 : ip7 a = false) (h2 : ip7 b = false) (h3 : dotL b = true) (h4 : b <:+ a) : leL a b = true := by
  unfold leL
  rw [h1, h2, h3]
  exact List.isSuffixOf_iff_suffix.mpr h4
theorem leL_trans {a b c : List Nat} (h : leL a b = true) (h' : leL b c = true) : leL a c = true := by
  rcases leL_cases h with rfl | ⟨i1, i2, d, s⟩
  · exact h'
  · rcases leL_cases h' with rfl | ⟨j1, j2, d', s'⟩
    · exact h
    · exact leL_of i1 j2 d' (s'.trans s)
theorem leL_anti {a b : List Nat} (h : leL a b = true) (h' : leL b a = true) : a = b := by
  rcases leL_cases h with rfl | ⟨_, _, _, s⟩
  · rfl
  · rcases leL_cases h' with rfl | ⟨_, _, _, s'⟩
    · rfl
    · exact s'.eq_of_length (Nat.le_antisymm s'.length_le s.length_le)
theorem leL_tree {a b c : List Nat} (h : leL a b = true) (h' : leL a c = true) : leL b c = true ∨ leL c b = true := by
  rcases leL_cases h with rfl | ⟨i1, i2, d, s⟩
  · exact .inl h'
  · rcases leL_cases h' with rfl | ⟨j1, j2, d', s'⟩
    · exact .inr h
    · rcases List.suffix_or_suffix_of_suffix s s' with t | t
      · exact .inr (leL_of j2 i2 d t)
      · exact .inl (leL_of i2 j2 d' t)
theorem forest_of {V : List Str} (h : ∀ a ∈ V, ip a = ip7 (cl a)) : Forest V where
  refl := fun a ha => by rw [udm_leL (h a ha) (h a ha)]; exact leL_refl _
  anti := fun a ha b hb x y => by
    rw [udm_leL (h a ha) (h b hb)] at x
    rw [udm_leL (h b hb) (h a ha)] at y
    exact cl_inj (leL_anti x y)
  trans := fun a ha b hb c hc x y => by
    rw [udm_leL (h a ha) (h b hb)] at x
    rw [udm_leL (h b hb) (h c hc)] at y
    rw [udm_leL (h a ha) (h c hc)]
    exact leL_trans x y
  tree := fun a ha b hb c hc x y => by
    rw [udm_leL (h a ha) (h b hb)] at x
    rw [udm_leL (h a ha) (h c hc)] at y
    rw [udm_leL (h b hb) (h c hc), udm_leL (h c hc) (h b hb)]
    exact leL_tree x y
/-- a pattern takes a host -/
theorem meant_any {c d : Nat} (hc : c ∈ trChars) (h42 : c ≠ 42) : (meantS ⟨#[d]⟩).any (· == escC c) = (d == c) := by
  have e1 : ((⟨#[d]⟩ : Str) == ".") = (d == 46) := chr_beq d 46
  have e2 : ((⟨#[d]⟩ : Str) == "7") = (d == 55) := chr_beq d 55
  unfold meantS
  rw [e1, e2]
  have hs : ∀ (n : Nat), n ≠ 1 → ∀ (x : Str), x.cps.size = n → (x == ⟨#[c]⟩) = false := fun n hn x hx => by
    rw [beq_eq_false_iff_ne]
    rintro rfl
    exact hn hx.symm
  by_cases h46 : d = 46
  · subst h46
    simp only [beq_self_eq_true, if_true]
    by_cases hcd : c = 46
    · subst hcd; decide
    · have : escC c = ⟨#[c]⟩ := by unfold escC; rw [if_neg hcd]
      rw [this, List.any_cons, List.any_nil, hs 2 (by decide) _ rfl]
      simp [Ne.symm hcd]
  · have b46 : (d == 46) = false := by simpa using h46
    rw [b46]
    simp only [Bool.false_eq_true, if_false]
    by_cases hcd : c = 46
    · subst hcd
      have he : escC 46 = "\\." := rfl
      rw [he, b46]
      by_cases h55 : d = 55
      · subst h55; decide
      · have b55 : (d == 55) = false := by simpa using h55
        rw [b55]
        simp only [Bool.false_eq_true, if_false, List.any_cons, List.any_nil, Bool.or_false]
        rw [beq_eq_false_iff_ne]
        intro q
        have := congrArg (fun x : Str => x.cps.size) q
        simp at this
        cases this
    · have he : escC c = ⟨#[c]⟩ := by unfold escC; rw [if_neg hcd]
      rw [he]
      by_cases h55 : d = 55
      · subst h55
        simp only [beq_self_eq_true, if_true, List.any_cons, List.any_nil, Bool.or_false]
        rw [show (("7" : Str) == ⟨#[c]⟩) = (55 == c) from chr_beq 55 c, hs 5 (by decide) "[0-9]" rfl, Bool.or_false]
      · have b55 : (d == 55) = false := by simpa using h55
        rw [b55]
        simp only [Bool.false_eq_true, if_false, List.any_cons, List.any_nil, Bool.or_false]
        exact chr_beq d c
theorem row_get (h : Str) (q : Nat) : (rowP h)[q]? = ((cl h)[q]?).map fun d => meantS ⟨#[d]⟩ := by
  unfold rowP signs
  rw [List.getElem?_map, List.getElem?_map, Option.map_map]
  rfl
theorem row_length (h : Str) : (rowP h).length = (cl h).length := by
  unfold rowP signs
  rw [List.length_map, List.length_map]
theorem fold_items (h : Str) : ∀ (cs : List Nat) (pl : List Nat), (∀ c ∈ cs, c ∈ trChars ∧ c ≠ 42) →
    (cs.map fun c => some (escC c)).foldl (fun pl it => stepP pl it (rowP h)) pl = (pl.filter fun q => cs.isPrefixOf ((cl h).drop q)).map (· + cs.length) := by
  intro cs
  induction cs with
  | nil => intro pl _; simp; exact (List.filter_eq_self.mpr (fun _ _ => rfl)).symm
  | cons c cs ih =>
    intro pl hc
    rw [List.map_cons, List.foldl_cons, ih _ (fun c h => hc c (.tail _ h))]
    unfold stepP
    simp only
    rw [List.filter_map, List.filter_filter, List.map_map]
    have e : (fun q => ((fun q => List.isPrefixOf cs (List.drop q (cl h))) ∘ fun x => x + 1) q && (decide (q < (rowP h).length) && ((rowP h)[q]?.getD []).any fun x => x == escC c)) = fun q => List.isPrefixOf (c :: cs) (List.drop q (cl h)) := by
      funext q
      show (List.isPrefixOf cs (List.drop (q + 1) (cl h)) && (decide (q < (rowP h).length) && ((rowP h)[q]?.getD []).any fun x => x == escC c)) = _
      rw [row_length, row_get]
      by_cases hq : q < (cl h).length
      · rw [List.drop_eq_getElem_cons hq, List.getElem?_eq_getElem hq, decide_eq_true hq]
        simp only [Option.map_some, Option.getD_some, Bool.true_and, List.isPrefixOf]
        rw [meant_any (hc c (.head _)).1 (hc c (.head _)).2, Bool.and_comm]
        congr 1
        rw [Bool.eq_iff_iff, beq_iff_eq, beq_iff_eq]
        exact eq_comm
      · rw [List.drop_of_length_le (Nat.le_of_not_lt hq), decide_eq_false hq]
        simp [List.isPrefixOf]
    rw [e]
    apply List.map_congr_left
    intro q _
    show q + 1 + cs.length = q + (c :: cs).length
    rw [List.length_cons]; omega
theorem tr_items : ∀ (cs : List Nat) (acc : List (Option Str)), (∀ c ∈ cs, c ≠ 42) → cs.foldl trStep acc = acc ++ cs.map fun c => some (escC c) := by
  intro cs
  induction cs with
  | nil => intro acc _; simp
  | cons c cs ih =>
    intro acc hc
    rw [List.foldl_cons]
    have : trStep acc c = acc ++ [some (escC c)] := by unfold trStep; rw [if_neg (hc c (.head _))]
    rw [this, ih _ (fun c h => hc c (.tail _ h))]
    simp
def tabL (h r : List Nat) : Bool := if dotL r then r.isSuffixOf h else h == r
theorem accP_all (row : List (List Str)) (items : List (Option Str)) : accP row items items.length = items.foldl (fun pl it => stepP pl it row) [0] := by
  unfold accP
  rw [List.take_length]
theorem pattern_dot {r : Str} (hr : cl r ≠ []) : ((⟨#[firstC r]⟩ : Str) == ".") = dotL (cl r) := by
  rw [show ((⟨#[firstC r]⟩ : Str) == ".") = (firstC r == 46) from chr_beq _ 46]
  unfold firstC
  rw [← Array.getElem?_toList]
  revert hr
  show cl r ≠ [] → ((cl r)[0]?.getD 0 == 46) = dotL (cl r)
  cases cl r with
  | nil => intro h; exact absurd rfl h
  | cons c l => intro _; rfl
theorem tab_L {h r : Str} (hr : cl r ≠ []) (hc : ∀ c ∈ cl r, c ∈ trChars ∧ c ≠ 42) : takenP1 (trP (patternP r)) (rowP h) = tabL (cl h) (cl r) := by
  unfold takenP1
  rw [accP_all, row_length]
  unfold patternP tabL
  rw [pattern_dot hr]
  cases hd : dotL (cl r) with
  | true =>
    simp only [if_true]
    have e : trP ("*" ++ r) = none :: (cl r).map fun c => some (escC c) := by
      unfold trP
      have : ("*" ++ r : Str).cps.toList = 42 :: cl r := by
        show ((⟨#[42] ++ r.cps⟩ : Str)).cps.toList = _
        simp [cl]
      rw [this, List.foldl_cons]
      show List.foldl trStep [none] (cl r) = _
      rw [tr_items _ _ (fun c h => (hc c h).2)]
      rfl
    rw [e, List.foldl_cons]
    have e0 : stepP [0] none (rowP h) = List.range ((cl h).length + 1) := by
      show (List.range ((rowP h).length + 1 - 0)).map (0 + ·) = _
      rw [row_length]; simp
    rw [e0, fold_items h _ _ hc, Bool.eq_iff_iff, List.any_eq_true, List.isSuffixOf_iff_suffix]
    constructor
    · rintro ⟨n, hn, e⟩
      obtain ⟨q, hq, rfl⟩ := List.mem_map.mp hn
      have hp := List.isPrefixOf_iff_prefix.mp (List.mem_filter.mp hq).2
      have e := beq_iff_eq.mp e
      have hl : (cl r).length = ((cl h).drop q).length := by rw [List.length_drop]; omega
      rw [hp.eq_of_length hl]
      exact List.drop_suffix _ _
    · intro hs
      have hd := List.suffix_iff_eq_drop.mp hs
      have hl := hs.length_le
      refine ⟨(cl h).length - (cl r).length + (cl r).length, List.mem_map.mpr ⟨_, List.mem_filter.mpr ⟨List.mem_range.mpr (by omega), ?_⟩, rfl⟩, by rw [beq_iff_eq]; omega⟩
      rw [List.isPrefixOf_iff_prefix, ← hd]
      exact List.prefix_refl _
  | false =>
    simp only [Bool.false_eq_true, if_false]
    have e : trP r = (cl r).map fun c => some (escC c) := by
      unfold trP
      show List.foldl trStep [] (cl r) = _
      rw [tr_items _ _ (fun c h => (hc c h).2)]
      rfl
    rw [e, fold_items h _ _ hc]
    rw [Bool.eq_iff_iff, List.any_eq_true, beq_iff_eq]
    constructor
    · rintro ⟨n, hn, e⟩
      obtain ⟨q, hq, rfl⟩ := List.mem_map.mp hn
      obtain ⟨h0, hp⟩ := List.mem_filter.mp hq
      have h0 := List.mem_singleton.mp h0
      subst h0
      have hp := List.isPrefixOf_iff_prefix.mp hp
      have e := beq_iff_eq.mp e
      rw [List.drop_zero] at hp
      exact (hp.eq_of_length (by omega)).symm
    · intro hs
      refine ⟨0 + (cl r).length, List.mem_map.mpr ⟨0, List.mem_filter.mpr ⟨.head _, ?_⟩, rfl⟩, by rw [beq_iff_eq, hs]; omega⟩
      rw [List.isPrefixOf_iff_prefix, List.drop_zero, hs]
      exact List.prefix_refl _
end Mine

/- P3 -/
open PySem PySem.Spec PySem.Calls PySem.W PyProof.Rows
set_option maxRecDepth 100000
namespace Mine
def UP : List (String × List Nat × List Nat) := [("local", [108, 111, 99, 97, 108], [108, 111, 99, 97, 108]), ("b.local", [98, 46, 108, 111, 99, 97, 108], [46, 108, 111, 99, 97, 108]), ("a.a", [97, 46, 97], [97, 46, 97]), ("7", [55], [55]), ("a.local", [97, 46, 108, 111, 99, 97, 108], [46, 108, 111, 99, 97, 108]), ("a.b.local", [97, 46, 98, 46, 108, 111, 99, 97, 108], [46, 98, 46, 108, 111, 99, 97, 108]), ("a.a.a", [97, 46, 97, 46, 97], [46, 97, 46, 97]), ("a.7", [97, 46, 55], [97, 46, 55]), ("a.a.local", [97, 46, 97, 46, 108, 111, 99, 97, 108], [46, 97, 46, 108, 111, 99, 97, 108]), ("a.a.b.local", [97, 46, 97, 46, 98, 46, 108, 111, 99, 97, 108], [46, 97, 46, 98, 46, 108, 111, 99, 97, 108]), ("a.a.a.a", [97, 46, 97, 46, 97, 46, 97], [46, 97, 46, 97, 46, 97]), ("a.a.7", [97, 46, 97, 46, 55], [97, 46, 97, 46, 55]), ("a.a.a.local", [97, 46, 97, 46, 97, 46, 108, 111, 99, 97, 108], [46, 97, 46, 97, 46, 108, 111, 99, 97, 108]), ("a.a.a.b.local", [97, 46, 97, 46, 97, 46, 98, 46, 108, 111, 99, 97, 108], [46, 97, 46, 97, 46, 98, 46, 108, 111, 99, 97, 108]), ("a.a.a.a.a", [97, 46, 97, 46, 97, 46, 97, 46, 97], [46, 97, 46, 97, 46, 97, 46, 97]), ("a.a.a.7", [97, 46, 97, 46, 97, 46, 55], [97, 46, 97, 46, 97, 46, 55]), ("b.b.local", [98, 46, 98, 46, 108, 111, 99, 97, 108], [46, 98, 46, 108, 111, 99, 97, 108]), ("b.a.a", [98, 46, 97, 46, 97], [46, 97, 46, 97]), ("b.7", [98, 46, 55], [98, 46, 55]), ("b.a.local", [98, 46, 97, 46, 108, 111, 99, 97, 108], [46, 97, 46, 108, 111, 99, 97, 108]), ("b.a.b.local", [98, 46, 97, 46, 98, 46, 108, 111, 99, 97, 108], [46, 97, 46, 98, 46, 108, 111, 99, 97, 108]), ("b.a.a.a", [98, 46, 97, 46, 97, 46, 97], [46, 97, 46, 97, 46, 97]), ("b.a.7", [98, 46, 97, 46, 55], [98, 46, 97, 46, 55]), ("b.a.a.local", [98, 46, 97, 46, 97, 46, 108, 111, 99, 97, 108], [46, 97, 46, 97, 46, 108, 111, 99, 97, 108]), ("b.a.a.b.local", [98, 46, 97, 46, 97, 46, 98, 46, 108, 111, 99, 97, 108], [46, 97, 46, 97, 46, 98, 46, 108, 111, 99, 97, 108]), ("b.a.a.a.a", [98, 46, 97, 46, 97, 46, 97, 46, 97], [46, 97, 46, 97, 46, 97, 46, 97]), ("b.a.a.7", [98, 46, 97, 46, 97, 46, 55], [98, 46, 97, 46, 97, 46, 55]), ("a.b.b.local", [97, 46, 98, 46, 98, 46, 108, 111, 99, 97, 108], [46, 98, 46, 98, 46, 108, 111, 99, 97, 108]), ("a.b.a.a", [97, 46, 98, 46, 97, 46, 97], [46, 98, 46, 97, 46, 97]), ("a.b.7", [97, 46, 98, 46, 55], [97, 46, 98, 46, 55]), ("a.b.a.local", [97, 46, 98, 46, 97, 46, 108, 111, 99, 97, 108], [46, 98, 46, 97, 46, 108, 111, 99, 97, 108]), ("a.b.a.b.local", [97, 46, 98, 46, 97, 46, 98, 46, 108, 111, 99, 97, 108], [46, 98, 46, 97, 46, 98, 46, 108, 111, 99, 97, 108]), ("a.b.a.a.a", [97, 46, 98, 46, 97, 46, 97, 46, 97], [46, 98, 46, 97, 46, 97, 46, 97]), ("a.b.a.7", [97, 46, 98, 46, 97, 46, 55], [97, 46, 98, 46, 97, 46, 55]), ("b.b.b.local", [98, 46, 98, 46, 98, 46, 108, 111, 99, 97, 108], [46, 98, 46, 98, 46, 108, 111, 99, 97, 108]), ("b.b.a.a", [98, 46, 98, 46, 97, 46, 97], [46, 98, 46, 97, 46, 97]), ("b.b.7", [98, 46, 98, 46, 55], [98, 46, 98, 46, 55]), ("b.b.a.local", [98, 46, 98, 46, 97, 46, 108, 111, 99, 97, 108], [46, 98, 46, 97, 46, 108, 111, 99, 97, 108]), ("b.b.a.b.local", [98, 46, 98, 46, 97, 46, 98, 46, 108, 111, 99, 97, 108], [46, 98, 46, 97, 46, 98, 46, 108, 111, 99, 97, 108]), ("b.b.a.a.a", [98, 46, 98, 46, 97, 46, 97, 46, 97], [46, 98, 46, 97, 46, 97, 46, 97]), ("b.b.a.7", [98, 46, 98, 46, 97, 46, 55], [98, 46, 98, 46, 97, 46, 55]), ("a.a.b.b.local", [97, 46, 97, 46, 98, 46, 98, 46, 108, 111, 99, 97, 108], [46, 97, 46, 98, 46, 98, 46, 108, 111, 99, 97, 108]), ("a.a.b.a.a", [97, 46, 97, 46, 98, 46, 97, 46, 97], [46, 97, 46, 98, 46, 97, 46, 97]), ("a.a.b.7", [97, 46, 97, 46, 98, 46, 55], [97, 46, 97, 46, 98, 46, 55]), ("b.a.b.b.local", [98, 46, 97, 46, 98, 46, 98, 46, 108, 111, 99, 97, 108], [46, 97, 46, 98, 46, 98, 46, 108, 111, 99, 97, 108]), ("b.a.b.a.a", [98, 46, 97, 46, 98, 46, 97, 46, 97], [46, 97, 46, 98, 46, 97, 46, 97]), ("b.a.b.7", [98, 46, 97, 46, 98, 46, 55], [98, 46, 97, 46, 98, 46, 55]), ("a.b.b.b.local", [97, 46, 98, 46, 98, 46, 98, 46, 108, 111, 99, 97, 108], [46, 98, 46, 98, 46, 98, 46, 108, 111, 99, 97, 108]), ("a.b.b.a.a", [97, 46, 98, 46, 98, 46, 97, 46, 97], [46, 98, 46, 98, 46, 97, 46, 97]), ("a.b.b.7", [97, 46, 98, 46, 98, 46, 55], [97, 46, 98, 46, 98, 46, 55]), ("b.b.b.b.local", [98, 46, 98, 46, 98, 46, 98, 46, 108, 111, 99, 97, 108], [46, 98, 46, 98, 46, 98, 46, 108, 111, 99, 97, 108]), ("b.b.b.a.a", [98, 46, 98, 46, 98, 46, 97, 46, 97], [46, 98, 46, 98, 46, 97, 46, 97]), ("b.b.b.7", [98, 46, 98, 46, 98, 46, 55], [98, 46, 98, 46, 98, 46, 55])]
def VP : List (String × List Nat) := [("local", [108, 111, 99, 97, 108]), (".local", [46, 108, 111, 99, 97, 108]), ("a.a", [97, 46, 97]), ("7", [55]), (".b.local", [46, 98, 46, 108, 111, 99, 97, 108]), (".a.a", [46, 97, 46, 97]), ("a.7", [97, 46, 55]), (".a.local", [46, 97, 46, 108, 111, 99, 97, 108]), (".a.b.local", [46, 97, 46, 98, 46, 108, 111, 99, 97, 108]), (".a.a.a", [46, 97, 46, 97, 46, 97]), ("a.a.7", [97, 46, 97, 46, 55]), (".a.a.local", [46, 97, 46, 97, 46, 108, 111, 99, 97, 108]), (".a.a.b.local", [46, 97, 46, 97, 46, 98, 46, 108, 111, 99, 97, 108]), (".a.a.a.a", [46, 97, 46, 97, 46, 97, 46, 97]), ("a.a.a.7", [97, 46, 97, 46, 97, 46, 55]), ("b.7", [98, 46, 55]), ("b.a.7", [98, 46, 97, 46, 55]), ("b.a.a.7", [98, 46, 97, 46, 97, 46, 55]), (".b.b.local", [46, 98, 46, 98, 46, 108, 111, 99, 97, 108]), (".b.a.a", [46, 98, 46, 97, 46, 97]), ("a.b.7", [97, 46, 98, 46, 55]), (".b.a.local", [46, 98, 46, 97, 46, 108, 111, 99, 97, 108]), (".b.a.b.local", [46, 98, 46, 97, 46, 98, 46, 108, 111, 99, 97, 108]), (".b.a.a.a", [46, 98, 46, 97, 46, 97, 46, 97]), ("a.b.a.7", [97, 46, 98, 46, 97, 46, 55]), ("b.b.7", [98, 46, 98, 46, 55]), ("b.b.a.7", [98, 46, 98, 46, 97, 46, 55]), (".a.b.b.local", [46, 97, 46, 98, 46, 98, 46, 108, 111, 99, 97, 108]), (".a.b.a.a", [46, 97, 46, 98, 46, 97, 46, 97]), ("a.a.b.7", [97, 46, 97, 46, 98, 46, 55]), ("b.a.b.7", [98, 46, 97, 46, 98, 46, 55]), (".b.b.b.local", [46, 98, 46, 98, 46, 98, 46, 108, 111, 99, 97, 108]), (".b.b.a.a", [46, 98, 46, 98, 46, 97, 46, 97]), ("a.b.b.7", [97, 46, 98, 46, 98, 46, 55]), ("b.b.b.7", [98, 46, 98, 46, 98, 46, 55])]

def VL : List (List Nat) := VP.map (·.2)
def uOk (q : String × List Nat × List Nat) : Bool :=
  let h := Str.ofString q.1
  cl h == q.2.1 && (ip h == ip7 q.2.1) && cl (reachP h) == q.2.2 && VL.any (· == q.2.2) && gt h && !(h == "") && Nat.ble (restP h).length 1000 && (Txt.lower (Txt.upper h) == h) && Nat.ble (Txt.upper h).length 100
def vOk (q : String × List Nat) : Bool :=
  let r := Str.ofString q.1
  cl r == q.2 && (ip r == ip7 q.2) && !(q.2 == []) && (q.2.all fun c => trChars.contains c && !(c == 42)) && gt r && !(r == "") && Nat.ble (patternP r).length 900 && (cl (patternP r)).all fun c => trChars.contains c
theorem u_ok1 : (UP.take 20).all uOk = true := by decide +kernel
theorem u_ok2 : ((UP.drop 20).take 17).all uOk = true := by decide +kernel
theorem u_ok3 : ((UP.drop 20).drop 17).all uOk = true := by decide +kernel
theorem u_ok : UP.all uOk = true := by
  rw [← List.take_append_drop 20 UP, List.all_append, u_ok1, ← List.take_append_drop 17 (UP.drop 20), List.all_append, u_ok2, u_ok3]; rfl
theorem v_ok : VP.all vOk = true := by decide +kernel
theorem hosts_U : ((List.range 128).all fun y => UP.any (fun q => q.2.1 == cl (hostP y))) = true := by decide +kernel
theorem base_U : (base3.all fun h => UP.any (fun q => q.2.1 == cl h)) = true := by decide +kernel
theorem pairs_ok : (UP.all fun q => VL.all fun r => (leL q.2.1 r == leL q.2.2 r) && (tabL q.2.1 r == leL q.2.1 r)) = true := by decide +kernel
def cond (h : Str) : Bool := (takenP1 (trP "*.*.*") (rowP h) || takenP1 (trP "*.local") (rowP h)) && !(takenP1 figItems (rowP h))
theorem rule_ok : (UP.all fun q => (cl (if cond (Str.ofString q.1) then "." ++ rest2 (Str.ofString q.1) else Str.ofString q.1) == q.2.2) && (!(cond (Str.ofString q.1)) || spOk (Str.ofString q.1))) = true := by decide +kernel
/-- what is known of a rule -/
structure VF (r : Str) : Prop where
  ipr : ip r = ip7 (cl r)
  ne : cl r ≠ []
  cs : ∀ c ∈ cl r, c ∈ trChars ∧ c ≠ 42
  g : gt r = true ∧ (r == "") = false ∧ (∀ c ∈ (patternP r).cps.toList, c ∈ trChars) ∧ (patternP r).length ≤ 900
  mem : VL.any (· == cl r) = true
theorem vf_of {r : Str} (h : VL.any (· == cl r) = true) : VF r := by
  obtain ⟨l, hl, e⟩ := List.any_eq_true.mp h
  obtain ⟨p, hp, rfl⟩ := List.mem_map.mp hl
  have e := beq_iff_eq.mp e
  have hv := List.all_eq_true.mp v_ok p hp
  unfold vOk at hv
  simp only [Bool.and_eq_true, Bool.not_eq_true'] at hv
  obtain ⟨⟨⟨⟨⟨⟨⟨v1, v2⟩, v3⟩, v4⟩, v5⟩, v6⟩, v7⟩, v8⟩ := hv
  have v1 := beq_iff_eq.mp v1
  have er : r = Str.ofString p.1 := cl_inj (e.symm.trans v1.symm)
  subst er
  refine ⟨by rw [v1]; exact beq_iff_eq.mp v2, by rw [v1]; exact fun q => (by rw [q] at v3; cases v3), fun c hc => ?_, ⟨v5, v6, fun c hc => ?_, Nat.le_of_ble_eq_true v7⟩, h⟩
  · rw [v1] at hc
    have := List.all_eq_true.mp v4 c hc
    simp only [Bool.and_eq_true, Bool.not_eq_true'] at this
    exact ⟨List.contains_iff_mem.mp this.1, fun q => by rw [q] at this; cases this.2⟩
  · exact List.contains_iff_mem.mp (List.all_eq_true.mp v8 c hc)
/-- what is known of a host -/
structure HF (h : Str) : Prop where
  g : gt h = true ∧ (h == "") = false ∧ (restP h).length ≤ 1000 ∧ Txt.lower (Txt.upper h) = h ∧ (Txt.upper h).length ≤ 100
  v : VF (reachP h)
  udm : ∀ r, VF r → udmL h r = udmL (reachP h) r
  tab : ∀ r, VF r → takenP1 (trP (patternP r)) (rowP h) = udmL (reachP h) r
  rule : (if cond h then "." ++ rest2 h else h) = reachP h
  sp : cond h = true → spOk h = true
theorem hf_of {h : Str} (hh : UP.any (fun q => q.2.1 == cl h) = true) : HF h := by
  obtain ⟨q, hq, e⟩ := List.any_eq_true.mp hh
  have e := beq_iff_eq.mp e
  have hu := List.all_eq_true.mp u_ok q hq
  have hr := List.all_eq_true.mp rule_ok q hq
  have hp := List.all_eq_true.mp pairs_ok q hq
  unfold uOk at hu
  simp only [Bool.and_eq_true, Bool.not_eq_true'] at hu hr
  obtain ⟨⟨⟨⟨⟨⟨⟨⟨u1, u2⟩, u3⟩, u4⟩, u5⟩, u6⟩, u7⟩, u8⟩, u9⟩ := hu
  have u1 := beq_iff_eq.mp u1
  have u3 := beq_iff_eq.mp u3
  have eh : h = Str.ofString q.1 := cl_inj (e.symm.trans u1.symm)
  subst eh
  have hv : VF (reachP (Str.ofString q.1)) := vf_of (by rw [u3]; exact u4)
  have hip : ip (Str.ofString q.1) = ip7 (cl (Str.ofString q.1)) := by rw [u1]; exact beq_iff_eq.mp u2
  have pr : ∀ r, VF r → leL q.2.1 (cl r) = leL q.2.2 (cl r) ∧ tabL q.2.1 (cl r) = leL q.2.1 (cl r) := fun r hr => by
    obtain ⟨l, hl, e⟩ := List.any_eq_true.mp hr.mem
    have := List.all_eq_true.mp hp l hl
    rw [Bool.and_eq_true, beq_iff_eq, beq_iff_eq, beq_iff_eq.mp e] at this
    exact this
  have ud : ∀ r, VF r → udmL (Str.ofString q.1) r = leL q.2.1 (cl r) ∧ udmL (reachP (Str.ofString q.1)) r = leL q.2.2 (cl r) := fun r hr => by
    rw [udm_leL hip hr.ipr, udm_leL hv.ipr hr.ipr, u1, u3]
    exact ⟨rfl, rfl⟩
  refine ⟨⟨u5, u6, Nat.le_of_ble_eq_true u7, beq_iff_eq.mp u8, Nat.le_of_ble_eq_true u9⟩, hv, fun r hr => ?_, fun r hr => ?_, cl_inj ?_, fun hc => ?_⟩
  · rw [(ud r hr).1, (ud r hr).2, (pr r hr).1]
  · rw [tab_L hr.ne hr.cs, u1, (ud r hr).2, (pr r hr).2, (pr r hr).1]
  · rw [u3]; exact beq_iff_eq.mp hr.1
  · have := hr.2
    rw [hc] at this
    exact this
end Mine

/- P4 -/
open PySem PySem.Spec PySem.Calls PySem.W PyProof.Rows
set_option maxRecDepth 100000
namespace Mine
theorem length_one {α : Type} {l : List α} (hd : l.Nodup) {a : α} (ha : a ∈ l) (hu : ∀ x ∈ l, x = a) : l.length = 1 := by
  cases l with
  | nil => cases ha
  | cons x t =>
    cases t with
    | nil => rfl
    | cons y t =>
      have hx := hu x (.head _)
      have hy := hu y (.tail _ (.head _))
      have := (List.nodup_cons.mp hd).1
      rw [hx, hy] at this
      exact absurd (.head _) this
theorem getD_mem {l : List Str} {k : Nat} (h : k < l.length) : l[k]?.getD "" ∈ l := by simp [h]
theorem getD_map {l : List Str} {f : Str → Str} {k : Nat} (h : k < l.length) : (l.map f)[k]?.getD "" = f (l[k]?.getD "") := by simp [h]
theorem mem_getD {l : List Str} {x : Str} (h : x ∈ l) : ∃ k, k < l.length ∧ l[k]?.getD "" = x := by
  obtain ⟨k, hk, e⟩ := List.mem_iff_getElem.mp h
  exact ⟨k, hk, by simp [hk, e]⟩
theorem tab_get {hs : List Str} {single : List Str} {r : Str} {k : Nat} (hr : r ∈ single) (hk : k < hs.length) : tabP (kvsP (hs.map rowP) single) r k = takenP1 (trP (patternP r)) (rowP (hs[k]?.getD "")) := by
  unfold tabP
  rw [kvs_lookup hr]
  simp [hk]
theorem facts_of {hs : List Str} (hh : ∀ h ∈ hs, HF h) (hn : hs.length ≤ 6) : Facts hs (hs.map reachP) := by
  have hV : ∀ r ∈ hs.map reachP, VF r := fun r hr => by
    obtain ⟨h, hm, rfl⟩ := List.mem_map.mp hr
    exact (hh h hm).v
  generalize hrs : hs.map reachP = rs at *
  have hlen : rs.length = hs.length := by rw [← hrs, List.length_map]
  have FV : Forest rs := forest_of fun a ha => (hV a ha).ipr
  have hK : keepN rs rs.length = rs.foldl keepP [] := by unfold keepN; rw [List.take_length]
  have hK' : keepN rs.reverse rs.length = rs.reverse.foldl keepP [] := by
    unfold keepN
    rw [show rs.length = rs.reverse.length by rw [List.length_reverse], List.take_length]
  have I := foldl_inv FV rs fun _ h => h
  have I' := foldl_inv FV rs.reverse fun _ h => List.mem_reverse.mp h
  have S := keep_sublist FV rs fun _ h => h
  generalize hKK : rs.foldl keepP [] = K at *
  have hmem : ∀ {r}, r ∈ K → r ∈ singleP rs := fun h => S.subset h
  have tabk : ∀ r ∈ singleP rs, ∀ k, k < hs.length → tabP (kvsP (hs.map rowP) (singleP rs)) r k = udmL (rs[k]?.getD "") r := fun r hr k hk => by
    rw [tab_get hr hk, (hh _ (getD_mem hk)).tab r (hV r (singleP_mem hr)), ← hrs, getD_map hk]
  have covers : ∀ (ch : List Str), (∀ r ∈ ch, r ∈ singleP rs) → ((bareP (kvsP (hs.map rowP) (singleP rs)) hs.length ch).isEmpty = true ↔ ∀ x ∈ rs, ∃ r ∈ ch, udmL x r = true) := fun ch hch => by
    unfold bareP
    constructor
    · intro h x hx
      obtain ⟨k, hk, e⟩ := mem_getD hx
      have h1 := filter_isEmpty_true h k (List.mem_range.mpr (by omega))
      obtain ⟨r, hr, ht⟩ := filter_isEmpty_false h1
      rw [tabk r (hch r hr) k (by omega), e] at ht
      exact ⟨r, hr, ht⟩
    · intro h
      rw [List.isEmpty_iff, List.filter_eq_nil_iff]
      intro k hk q
      have hk := List.mem_range.mp hk
      obtain ⟨r, hr, ht⟩ := h _ (getD_mem (l := rs) (by omega : k < rs.length))
      have := filter_isEmpty_true q r hr
      rw [tabk r (hch r hr) k hk, ht] at this
      cases this
  refine ⟨hn, hlen, fun h hm => (hh h hm).g, hrs.symm, fun r hr => (hV r hr).g, ?_, fun k hk => ⟨?_, ?_⟩, ?_⟩
  · rw [hK]
    refine sublist_ext S (needN_filter _) (singleP_nodup rs) fun r => ?_
    unfold neededP
    rw [needN_mem]
    constructor
    · intro hr
      refine ⟨hmem hr, fun m _ hb => ?_⟩
      have hch : ∀ r ∈ chosenP (singleP rs) m, r ∈ singleP rs := fun r hr => by
        obtain ⟨j, hj, _, e⟩ := chosen_iff.mp hr
        rw [← e]; exact getD_mem hj
      obtain ⟨c, hc, hle⟩ := (covers _ hch).mp hb r (I.mem r hr)
      have := ((I.max FV (fun _ h => h) r).mp hr).2 c (singleP_mem (hch c hc)) hle
      rw [← this]; exact hc
    · rintro ⟨hr, hall⟩
      obtain ⟨m, hm, hb⟩ := bits (singleP rs).length (fun j => K.any (· == (singleP rs)[j]?.getD ""))
      have hmemc : ∀ c, c ∈ chosenP (singleP rs) m ↔ c ∈ K := fun c => by
        rw [chosen_iff]
        constructor
        · rintro ⟨j, hj, e1, e2⟩
          rw [hb j hj] at e1
          obtain ⟨z, hz, e⟩ := List.any_eq_true.mp e1
          rw [← e2, ← beq_iff_eq.mp e]; exact hz
        · intro hc
          obtain ⟨j, hj, e⟩ := mem_getD (hmem hc)
          refine ⟨j, hj, ?_, e⟩
          rw [hb j hj, List.any_eq_true]
          exact ⟨c, hc, by rw [e]; simp⟩
      have hcov := (covers (chosenP (singleP rs) m) (fun r hr => hmem ((hmemc r).mp hr))).mpr fun x hx => by
        obtain ⟨k, hk, hle⟩ := I.cover x hx
        exact ⟨k, (hmemc k).mpr hk, hle⟩
      exact (hmemc r).mp (hall m hm hcov)
  · rw [hK]
    apply List.filter_congr
    intro r hr
    rw [tabk r (hmem hr) k hk, (hh _ (getD_mem hk)).udm r (hV r (I.mem r hr)), ← hrs, getD_map hk]
  · rw [hK]
    have hx : rs[k]?.getD "" ∈ rs := getD_mem (by omega)
    obtain ⟨c, hc, hle⟩ := I.cover _ hx
    refine length_one (a := c) (I.nodup.filter _) (List.mem_filter.mpr ⟨hc, by rw [tabk c (hmem hc) k hk]; exact hle⟩) fun r hr => ?_
    obtain ⟨h1, h2⟩ := List.mem_filter.mp hr
    rw [tabk r (hmem h1) k hk] at h2
    rcases FV.tree _ hx r (I.mem r h1) c (I.mem c hc) h2 hle with z | z
    · exact I.anti r h1 c hc z
    · exact (I.anti c hc r h1 z).symm
  · rw [hK, hK']
    refine (List.perm_ext_iff_of_nodup I'.nodup I.nodup).mpr fun r => ?_
    rw [I'.max FV (fun _ h => List.mem_reverse.mp h) r, I.max FV (fun _ h => h) r]
    simp [List.mem_reverse]
theorem facts0_of {hs : List Str} (hh : ∀ h ∈ hs, HF h) (hn : hs.length ≤ 6) : Facts0 hs (hs.map reachP) := by
  have tg : ∀ (items : List (Option Str)) k, k < hs.length → ((hs.map rowP).map (takenP1 items))[k]?.getD false = takenP1 items (rowP (hs[k]?.getD "")) := fun items k hk => by simp [hk]
  refine ⟨facts_of hh hn, ?_, fun k hk hc => ?_⟩
  · unfold rulesP
    apply List.ext_getElem (by simp)
    intro k h1 h2
    have hk : k < hs.length := by simpa using h1
    have H := hh _ (getD_mem hk)
    rw [List.getElem_map, List.getElem_range, List.getElem_map]
    unfold ruleAt tOf lOf gOf
    rw [tg _ k hk, tg _ k hk, tg _ k hk]
    have := H.rule
    unfold cond at this
    rw [this]
    simp [hk]
  · unfold tOf lOf gOf at hc
    rw [tg _ k hk, tg _ k hk, tg _ k hk] at hc
    exact (hh _ (getD_mem hk)).sp hc
theorem hosts_facts (xs : List Int) : Facts0 (hostsP xs) ((hostsP xs).map reachP) := by
  refine facts0_of (fun h hm => hf_of ?_) ?_
  · unfold hostsP at hm
    rcases List.mem_append.mp hm with q | q
    · exact List.all_eq_true.mp base_U h q
    · obtain ⟨x, _, rfl⟩ := List.mem_map.mp q
      unfold hostOf
      refine List.all_eq_true.mp hosts_U _ (List.mem_range.mpr ?_)
      have := Int.fmod_lt_of_pos x (show (0:Int) < 128 by decide)
      omega
  · unfold hostsP
    rw [List.length_append, List.length_map, List.length_take]
    show 3 + _ ≤ 6
    omega
end Mine

/- G1 -/
open PySem PySem.Spec PySem.Calls PySem.W PyProof.Rows
set_option maxRecDepth 100000
namespace Mine
theorem rps_strs {h : Heap} : ∀ {vs : List Value} {ss : List Str}, Rps h vs (ss.map PV.str) → StrsAre vs ss
  | [], [], _ => .nil
  | _ :: _, _ :: _, .cons a b => by
    cases a
    exact .cons _ _ (rps_strs b)
theorem passing_all (n : Nat) : passing (fun _ => true) n 0 = List.range n := by
  unfold passing
  rw [List.drop_zero, List.filter_eq_self.mpr (fun _ _ => rfl)]
set_option maxHeartbeats 1000000 in
/-- '-'.join((elt for s in chunks)), elt giving back s -/
theorem gen_join {w : World} {A : Around} {env : Env} {ρ : Ro} {s : Shared} {D : Addr} {ss : List Str} {E : Value → Shared → Prop} {Q : Value → Shared → Prop}
    {elt : PySem.Expr} {x it : Str} {k0 : Nat} {p0 ap px pi cpos pos : Pos} {scope : Scope} {pl : Sem Bool}
    (G : Gd w s.heap) (h83 : s.heap.get? 83 = some (tabObj #[])) (Fv : FrV env s.heap ρ) (hl : ρ.lookup it = some (At D (ss.map PV.str))) (hR : Room 0 A)
    (hcode : env.code = .ref 87) (hge0 : env.globals = mainGlobals)
    (helt : ∀ (C : Addr) (code : Value) (bi : Addr) (A' : Around) E' (a : Str) (t : Tok) (s₂ : Shared) m₂, a ∈ ss → s₂.heap.Ns (genEnv scope [] C code bi env).locals m₂ → m₂ x = some (.str a t) →
      wpAny (model prg w) A' (eval elt (genEnv scope [] C code bi env)) (fun y s₃ => (∃ t, y = .str a t) ∧ Keeps s₂ s₃) E' s₂)
    (hok : JoinOk "-" ss = true) (hsz : ss.length ≤ 1000)
    (hQ : ∀ s' t', Kps true s s' → (∃ c', s'.heap.get? 83 = some (tabObj #[rawInt pos.line, rawInt pos.col, .ref c'])) → Q (.str (Txt.join "-" ss) t') s')
    (hco : scope.isCoroutine = false) (hclos : closureFor scope env = pure []) (hcell : ∀ y ∈ scope.names, y.2 ≠ .cell) (h0 : scope.names.lookup (".0" : Str) = some NameKind.local)
    (hx : scope.names.lookup x = some .local) (hkind : scope.kind = .function)
    (hk : env.scope.kind = .function) (hd : (it == ("__debug__" : Str)) = false) (hn : (it == ("__classdict__" : Str)) = false)
    (hs : ∀ x, genFold (.Name it pi) env x = pure x)
    (hc : eval (.Call (.Attribute (.Constant (.str "-") k0 p0) "join" ap) [.GeneratorExp elt [⟨.Name x px, .Name it pi, [], 0⟩] scope pos] [] cpos) env = (do
      let ov ← eval (.Constant (.str "-") k0 p0) env
      standAt ap.atName
      let (f, first) ← holding [ov] (getMethod ov "join" pl)
      callWith cpos f first (backTo cpos (starEach [.GeneratorExp elt [⟨.Name x px, .Name it pi, [], 0⟩] scope pos] env)) []))
    (he : starEach [.GeneratorExp elt [⟨.Name x px, .Name it pi, [], 0⟩] scope pos] env = (false, eval (.GeneratorExp elt [⟨.Name x px, .Name it pi, [], 0⟩] scope pos) env) :: starEach [] env) :
    wpAny (model prg w) A (eval (.Call (.Attribute (.Constant (.str "-") k0 p0) "join" ap) [.GeneratorExp elt [⟨.Name x px, .Name it pi, [], 0⟩] scope pos] [] cpos) env) Q E s := by
  refine MethodCall_ (pl := pl) (Constant_str ?_) hc
  refine gm_str F.slot_str_join F.type_str_join { s with toks := s.toks + 1 } _ G (.str _ _) _ _ ?_
  refine callWith_method1 ?_ he rfl
  show wpAny _ _ (spliced (backTo cpos (starEach [.GeneratorExp elt [⟨.Name x px, .Name it pi, [], 0⟩] scope pos] env))) _ _ _
  rw [he]
  refine spliced_cons ?_
  refine wpAny_GeneratorExp_walksQ hR.1 hco hclos hcell h0 hx hkind (by have := hR.2.1; omega) ?_ hs
  refine wpAny_mono ((ev_name (f := false) (w := w) (A := A) (P := At D (ss.map PV.str)) hl hk hd hn) { s with toks := s.toks + 1 } G Fv E) (fun v s₁ h₁ => ?_) fun _ _ e => e
  obtain ⟨⟨rfl, r₁⟩, k₁⟩ := h₁
  have k₁ : Kps false s s₁ := (Kps.toks (tk := s.toks + 1)).trans k₁
  have G₁ := G.kp k₁.kp
  have t₁ : s₁.heap.get? 83 = some (tabObj #[]) := k₁.kp.keep 83 _ (by decide) (fun q => by cases q) h83
  cases r₁ with
  | list z l r =>
  rename_i vs
  have hsa := rps_strs r
  have hlen : vs.length = ss.length := hsa.length
  have hDlt : D < s₁.heap.objs.size := by obtain ⟨_, e⟩ := l; exact Heap.lt_size e
  have hD83 : D ≠ 83 := fun q => by subst q; obtain ⟨_, e⟩ := l; rw [t₁] at e; cases e
  refine wpAny_pyIter_list l.isList ?_
  have k₂ : Kps false s₁ { s₁ with heap := s₁.heap.push { cls := .type "list_iterator", data := .fields #[.ref D, .int 0 0] } } := .push'
  have G₂ := G₁.kp k₂.kp
  refine ⟨G₂.lim, ?_⟩
  have hs83 : 83 < s₁.heap.objs.size := Heap.lt_size t₁
  have hsz₂ : (s₁.heap.push { cls := .type "list_iterator", data := .fields #[.ref D, .int 0 0] }).objs.size = s₁.heap.objs.size + 1 := Heap.size_push _ _
  have hit : (s₁.heap.push { cls := .type "list_iterator", data := .fields #[.ref D, .int 0 0] }).IsListIter s₁.heap.objs.size D 0 := ⟨_, Heap.get?_push_size _ rfl, rfl, rfl⟩
  have hli : (s₁.heap.push { cls := .type "list_iterator", data := .fields #[.ref D, .int 0 0] }).IsList D vs.toArray := l.isList.push _
  have push₂ : ∀ b o, s₁.heap.get? b = some o → (s₁.heap.push { cls := .type "list_iterator", data := .fields #[.ref D, .int 0 0] }).get? b = some o := fun b o e => Heap.get?_push_of_some _ e
  have G₂ : Gd w (s₁.heap.push { cls := .type "list_iterator", data := .fields #[.ref D, .int 0 0] }) := G₂
  clear k₂
  revert G₂ hsz₂ hit hli push₂
  generalize s₁.heap.push { cls := .type "list_iterator", data := .fields #[.ref D, .int 0 0] } = H₂
  intro hsz₂ hit hli push₂ G₂
  have t₂ : H₂.get? 83 = some (tabObj #[]) := push₂ _ _ t₁
  have C : CodeHd H₂ 87 83 := codeHd_of_K G₂.K (by kernel_rfl)
  refine wpAny_genexprCodeX (s := { s₁ with heap := H₂ }) hcode (C.code t₂ trivial) (C.tab t₂) rfl fun c' h₃ tk₃ hx₃ hge hlt hcode₃ _ htab₃ _ => ?_
  have tab₃ : h₃.get? 83 = some (tabObj #[rawInt pos.line, rawInt pos.col, .ref c']) := by
    have := htab₃.2
    simpa using this
  have hx₃ : ∀ b o, b ≠ 83 → H₂.get? b = some o → h₃.get? b = some o := hx₃
  have kp₃ : Kp true H₂ h₃ := ⟨fun b o _ n e => hx₃ b o (n rfl) e, fun t => ⟨?_, _, tab₃⟩⟩
  rotate_left
  · rcases t.1 with e | ⟨c₁, e, ⟨c₂, o₂, vs₂, t', e1, e2, e3, e4⟩, z⟩
    · exact .inl (hx₃ _ _ (by decide) e)
    · refine .inr ⟨c₁, hx₃ _ _ (by decide) e, ⟨c₂, o₂, vs₂, t', e1, hx₃ _ _ (fun q => ?_) e2, e3, e4⟩, z⟩
      cases e1
      rw [q] at z
      exact absurd z (by decide)
  have G₃ := G₂.kp kp₃
  obtain ⟨mg, hmg⟩ := G₃.g
  obtain ⟨bm, ob, b1, b2, b3, b4, b5, b6⟩ := G₃.bm mg hmg
  refine wpAny_builtinsFor (m := mg) (by rw [hge0]; exact hmg) b1 b2 b3 b4 b5 b6 ?_
  have hge : H₂.objs.size ≤ c' := hge
  have hsz₃ : H₂.objs.size ≤ h₃.objs.size := Nat.le_trans hge (Nat.le_of_lt hlt)
  have hI83 : s₁.heap.objs.size ≠ 83 := Nat.ne_of_gt hs83
  refine ⟨s₁.heap.objs.size, [s₁.heap.objs.size, D], [s₁.heap.objs.size], vs.toArray.size, _, _, fun _ => true, fun i y => ∃ t, y = .str (ss[i]?.getD "") t, rfl,
    (fun A' hA => Walks.list hA _ _ (Nat.ne_of_lt hDlt) vs.toArray), ⟨hit.at fun o e => hx₃ _ o hI83 e, hli.at fun o e => hx₃ _ o hD83 e⟩, ?_, G₃.lim, ?_, ?_, ?_⟩
  · intro b hb
    show b < h₃.objs.size
    rcases List.mem_cons.mp hb with rfl | hb
    · exact Nat.lt_of_lt_of_le (by rw [hsz₂]; exact Nat.lt_succ_self _) hsz₃
    · rw [List.mem_singleton.mp hb]
      exact Nat.lt_of_lt_of_le (Nat.lt_of_lt_of_le hDlt (by rw [hsz₂]; exact Nat.le_succ _)) hsz₃
  · intro hm
    have := List.mem_singleton.mp hm
    obtain ⟨mc, hns, _⟩ := G₁.lim
    exact Nat.lt_irrefl _ (this ▸ hns.lt)
  · intro href hhref
    refine ⟨fun A' E' i v s₂ m₂ _ hP hn hm _ => wpAny_pure ⟨rfl, ⟨_, _, rfl, fun _ _ e => e⟩⟩, fun A' E' i v s₂ m₂ _ hP _ hn hm _ => ?_⟩
    have hP : vs.toArray[i]? = some v := hP
    have hv : vs[i]? = some v := by simpa using hP
    have hi : i < ss.length := by rw [← hlen]; exact (List.getElem?_eq_some_iff.mp hv).1
    obtain ⟨t, ht⟩ := hsa.get i ss[i] (List.getElem?_eq_getElem hi)
    rw [hv] at ht
    cases ht
    have e : ss[i]?.getD "" = ss[i] := by simp [hi]
    rw [e]
    exact helt _ _ _ A' E' ss[i] t s₂ m₂ (List.getElem_mem hi) hn hm
  · intro a h₅ tk gs hgb hag hsz₅ hk₅ W hat
    refine spliced_nil ?_
    have hag : h₃.objs.size < a := hag
    have hsz₅ : h₅.objs.size = a + 1 := hsz₅
    have hk₅ : ∀ b o, h₃.get? b = some o → h₅.get? b = some o := hk₅
    have e2 : passing (fun _ => true) vs.toArray.size 0 = List.range ss.length := by rw [passing_all]; simp [hlen]
    rw [e2] at W
    refine SC.joinGen W.in4_2 (fun i s' st => st.1.typeIs) hat (fun b hb => ?_) (List.mem_cons_self) (fun j v hv => let ⟨i, _, t, e⟩ := hv; ⟨_, t, e⟩) (fun s' lt hm hacc => ?_) (by simp; rw [sizeLine_eq]; omega)
    · show b < h₅.objs.size
      rw [hsz₅]
      rcases List.mem_cons.mp hb with rfl | hb
      · exact Nat.lt_succ_self _
      · rcases List.mem_cons.mp hb with rfl | hb
        · exact Nat.lt_succ_of_lt hag
        · exact Nat.lt_succ_of_lt (Nat.lt_trans (List.mem_range.mp hb) hag)
    have hl' : lt.map (·.1) = ss := by
      apply List.ext_getElem?
      intro j
      have hsz : lt.length = ss.length := by simpa [strValues] using hacc.1
      by_cases hj : j < ss.length
      · have hj' : j < lt.length := hsz ▸ hj
        obtain ⟨i, hi, u, hv⟩ := hacc.2 j (.str lt[j].1 lt[j].2) (by simp [strValues, List.getElem?_eq_getElem hj'])
        rw [List.getElem?_range hj] at hi
        cases hi
        injection hv with h1 _
        simp [List.getElem?_eq_getElem hj', hj, h1]
      · rw [List.getElem?_eq_none (by simpa [hsz] using Nat.le_of_not_lt hj), List.getElem?_eq_none (Nat.le_of_not_lt hj)]
    rw [hl']
    refine ⟨hok, fun t' k => ?_⟩
    obtain ⟨m1, m2, m3, m4, m5⟩ := hm
    have keep : ∀ b o, b < H₂.objs.size → h₅.get? b = some o → b ≠ s₁.heap.objs.size → s'.heap.get? b = some o := fun b o hb e hne => m1 b o (fun q => by
      rcases List.mem_cons.mp q with q | q
      · have : b = h₃.objs.size := q
        exact absurd (this ▸ hb) (Nat.not_lt.mpr hsz₃)
      · exact hne (List.mem_singleton.mp q)) e
    have keep' : ∀ b o, b ≠ 83 → s₁.heap.get? b = some o → s'.heap.get? b = some o := fun b o n e => by
      have hb := Heap.lt_size e
      exact keep b o (by rw [hsz₂]; exact Nat.lt_succ_of_lt hb) (hk₅ b o (hx₃ b o n (push₂ b o e))) (Nat.ne_of_lt hb)
    have tab' : s'.heap.get? 83 = some (tabObj #[rawInt pos.line, rawInt pos.col, .ref c']) := keep 83 _ (Heap.lt_size t₂) (hk₅ _ _ tab₃) (Ne.symm hI83)
    have kp₅ : Kp true s₁.heap s'.heap := by
      refine ⟨fun b o _ n e => keep' b o (n rfl) e, fun t => ⟨?_, _, tab'⟩⟩
      rcases t.1 with e | ⟨c₁, e, ⟨c₂, o₂, vs₂, t', e1, e2, e3, e4⟩, z⟩
      · exact .inl (keep' _ _ (by decide) e)
      · refine .inr ⟨c₁, keep' _ _ (by decide) e, ⟨c₂, o₂, vs₂, t', e1, keep' _ _ (fun q => ?_) e2, e3, e4⟩, z⟩
        cases e1
        rw [q] at z
        exact absurd z (by decide)
    refine hQ _ t' (k₁.up.trans ⟨⟨s'.heap, k, s'.gens, ?_, fun hb => ?_⟩, kp₅⟩) ⟨c', tab'⟩
    · obtain ⟨hp', g', d', tk', os'⟩ := s'
      have m3 : d' = s₁.drawn := m3
      have m4 : os' = s₁.os := m4
      subst m3 m4
      rfl
    · exact GenOnlyQ.bare m2 (AllBare.push hb hgb)
end Mine

/- O6 -/
open PySem PySem.Spec PySem.Calls PySem.W PyProof.Rows
set_option maxRecDepth 100000
namespace Mine
section
variable (w : World) (A : Around) (env : Env) (g : Heap) (mu : List Addr)
/-- statements in whose course the table at 83 may grow -/
def XM (ρ : Ro) (stmts : List Stmt) (Q : Post) : Prop := ∀ s, Kp false g s.heap → FrS env g s.heap ρ → ∀ E, wpAny (model prg w) A (execs stmts env) (fun fl s' => Q fl s'.heap ∧ Kp true g s'.heap ∧ RO true (ownOf env ++ mu) s s') E s
def X1M (ρ : Ro) (st : Stmt) (Q : Post) : Prop := ∀ s, Kp false g s.heap → FrS env g s.heap ρ → ∀ E, wpAny (model prg w) A (exec st env) (fun fl s' => Q fl s'.heap ∧ Kp true g s'.heap ∧ RO true (ownOf env ++ mu) s s') E s
end
theorem RO.w {own : List Addr} {a b : Shared} (x : RO false own a b) : RO true own a b := ⟨x.ex, fun b o n1 n2 _ e => x.keep b o n1 n2 (fun q => by cases q) e⟩
section
variable {f : Bool} {w : World} {A : Around} {env : Env} {g : Heap} {mu : List Addr} {ρ ρ' : Ro} {e test iter : PySem.Expr} {P P1 P2 : SP} {pos px apos pos' : Pos} {x : Str} {Q Q' : Post} {rest body orelse : List Stmt} {ps : List PV} {st : Stmt}
theorem xm_one (h : X1 false w A env g mu ρ st (nextP env g ρ')) (hr : XM w A env g mu ρ' rest Q) : XM w A env g mu ρ (st :: rest) Q := fun s K F E => by
  refine wpAny_execs_cons (wpAny_mono (h s K F E) (fun fl s' x => ?_) fun _ _ e => e)
  obtain ⟨⟨rfl, F'⟩, K', R'⟩ := x
  exact wpAny_mono (hr s' K' F' E) (fun _ _ y => ⟨y.1, y.2.1, R'.w.trans y.2.2⟩) fun _ _ e => e
theorem xm_go (h : X1M w A env g mu ρ st (nextP env g ρ')) (hr : XS true w A env g mu ρ' rest Q) : XM w A env g mu ρ (st :: rest) Q := fun s K F E => by
  refine wpAny_execs_cons (wpAny_mono (h s K F E) (fun fl s' x => ?_) fun _ _ e => e)
  obtain ⟨⟨rfl, F'⟩, K', R'⟩ := x
  exact wpAny_mono (hr s' K' F' E) (fun _ _ y => ⟨y.1, y.2.1, R'.trans y.2.2⟩) fun _ _ e => e
theorem XM.mono (h : XM w A env g mu ρ rest Q) (hq : ∀ fl h, Q fl h → Q' fl h) : XM w A env g mu ρ rest Q' := fun s K F E => wpAny_mono (h s K F E) (fun _ _ x => ⟨hq _ _ x.1, x.2⟩) fun _ _ e => e
theorem xm_last (h : X1M w A env g mu ρ st Q) (hq : ∀ fl h, Q fl h → fl = .next) : XM w A env g mu ρ [st] Q := fun s K F E => by
  refine wpAny_execs_cons (wpAny_mono (h s K F E) (fun fl s' x => ?_) fun _ _ e => e)
  have := hq _ _ x.1
  subst this
  exact wpAny_execs_nil x
theorem xm_if {b : Bool} (G : Gd w g) (h : EB false w A env ρ test b) (h1 : b = true → XM w A env g mu ρ body Q) (h2 : b = false → XM w A env g mu ρ orelse Q) : X1M w A env g mu ρ (.If test body orelse pos) Q := fun s K F E =>
  wpAny_If (h.run G K F fun s' K' F' R' => by
    cases b with
    | true => exact wpAny_mono (h1 rfl s' K' F' E) (fun _ _ y => ⟨y.1, y.2.1, (RO.of R').w.trans y.2.2⟩) fun _ _ e => e
    | false => exact wpAny_mono (h2 rfl s' K' F' E) (fun _ _ y => ⟨y.1, y.2.1, (RO.of R').w.trans y.2.2⟩) fun _ _ e => e)
theorem x1m_sub {ρ0 : Ro} (h : Sub ρ ρ0) (hx : X1M w A env g mu ρ0 st Q) : X1M w A env g mu ρ st Q := fun s K F E => hx s K (F.sub h) E
theorem xm_sub {ρ0 : Ro} (h : Sub ρ ρ0) (hx : XM w A env g mu ρ0 rest Q) : XM w A env g mu ρ rest Q := fun s K F E => hx s K (F.sub h) E
/-- x = [] -/
theorem xm_newlist (G : Gd w g) (hx : env.kindOf x = some .local ∨ (env.kindOf x = some .cell ∧ (env.cells.lookup x).isSome = true)) (h : ∀ D, New g D → XM w A env g (D :: mu) ((x, At D []) :: ρ) rest Q) (hk : env.scope.kind = .function := by rfl)
    (hs : swapsWith (.List [] apos) (some (.Name x pos')) pos.line env = pure false := by rfl) (he : starEach [] env = [] := by rfl) : XM w A env g mu ρ (.Assign [.Name x pos'] (.List [] apos) pos :: rest) Q := fun s K F E => by
  refine wpAny_execs_cons (wpAny_Assign_Name (List_ ?_) hs)
  rw [he]
  refine spliced_nil (wpAny_newObj_type ?_ (show (0 : Nat) ≤ sizeLine from Nat.zero_le _))
  have nD : New g s.heap.objs.size := new_of K G.tb (Nat.le_refl _)
  have k₁ : Kps false s { s with heap := s.heap.push { cls := .type "list", data := .seq ([] : List Value).toArray } } := .push'
  have K₁ := K.trans k₁.kp
  have F₁ := F.kp k₁.kp (G.kp K).tb
  refine store_ (P := At s.heap.objs.size []) F₁ K₁ ⟨rfl, .list (G.kp K).sz ⟨0, Heap.get?_push_size _ rfl⟩ .nil⟩ off_any hk hx fun s₂ K₂ F₂ R₂ _ => ?_
  refine wpAny_mono (h _ nD s₂ K₂ F₂ E) (fun fl s₃ q => ⟨q.1, q.2.1, ?_⟩) fun _ _ e => e
  have r1 : RO true (ownOf env ++ (s.heap.objs.size :: mu)) s s₃ := ((RO.of k₁).w.trans R₂.left.w).trans q.2.2
  refine r1.sub fun b hb => ?_
  rcases List.mem_append.mp hb with z | z
  · exact .inl (List.mem_append_left _ z)
  · rcases List.mem_cons.mp z with rfl | z
    · exact .inr (get_none_of_le (Nat.le_refl _))
    · exact .inl (List.mem_append_right _ z)
/-- a while loop, the table may grow in its last round -/
theorem xm_while (G : Gd w g) {n : Nat} {ρs : Nat → Ro} {ρe : Ro} (ht : ∀ k, k ≤ n → EB false w A env (ρs k) test true) (hb : ∀ k, k < n → XS false w A env g mu (ρs k) body (nextP env g (ρs (k + 1)))) (hl : XM w A env g mu (ρs n) body (nextP env g ρe)) (he : EB true w A env ρe test false) :
    X1M w A env g mu (ρs 0) (.While test body [] pos) (nextP env g ρe) := fun s K F E => by
  refine wpAny_While (codeAny_whileLoop (fun m s' => (∃ k, k ≤ n ∧ m = n + 1 - k ∧ Kp false g s'.heap ∧ FrS env g s'.heap (ρs k) ∧ RO false (ownOf env ++ mu) s s') ∨ (m = 0 ∧ Kp true g s'.heap ∧ FrS env g s'.heap ρe ∧ RO true (ownOf env ++ mu) s s')) (fun m s₁ hI => ?_) (n + 1) (.inl ⟨0, Nat.zero_le _, rfl, K, F, .refl _⟩))
  rcases hI with ⟨k, hk, rfl, K₁, F₁, R₁⟩ | ⟨rfl, K₁, F₁, R₁⟩
  · refine (ht k hk).run G K₁ F₁ fun s₂ K₂ F₂ k₂ => ?_
    rw [if_pos rfl]
    by_cases hlt : k < n
    · refine wpAny_mono (hb k hlt s₂ K₂ F₂ _) (fun fl s₃ q => ?_) fun _ _ e => e
      obtain ⟨⟨rfl, F₃⟩, K₃, R₃⟩ := q
      exact ⟨n + 1 - (k + 1), by omega, .inl ⟨k + 1, hlt, rfl, K₃, F₃, (R₁.trans (.of k₂)).trans R₃⟩⟩
    · have : k = n := by omega
      subst this
      refine wpAny_mono (hl s₂ K₂ F₂ _) (fun fl s₃ q => ?_) fun _ _ e => e
      obtain ⟨⟨rfl, F₃⟩, K₃, R₃⟩ := q
      exact ⟨0, by omega, .inr ⟨rfl, K₃, F₃, (R₁.w.trans (RO.of k₂).w).trans R₃⟩⟩
  · refine he.run G K₁ F₁ fun s₂ K₂ F₂ k₂ => ?_
    rw [if_neg Bool.false_ne_true]
    exact wpAny_execs_nil ⟨⟨rfl, F₂⟩, K₂, R₁.trans (.of k₂)⟩
end
/-- range(1, 0, -1) -/
def RD : SP := .mk0 (fun h v => ∃ r t u k, v = .ref r ∧ IsRange h r 1 0 (-1) t u k) (fun t k ⟨r, t', u, q, e, i⟩ => ⟨r, t', u, q, e, k.get t i (fun ps q => by cases q)⟩) (fun _ _ _ _ k ⟨r, t', u, q, e, i⟩ => ⟨r, t', u, q, e, k.get i (not_frameish (T := "range") rfl (fun _ _ q => by cases q) (fun _ q => by cases q))⟩)
theorem op_rangeD {f : Bool} {w : World} {A : Around} {s : Shared} {a b c : Value} (ha : Rp s.heap a (.int 1)) (hb : Rp s.heap b (.int 0)) (hc : Rp s.heap c (.int (-1))) : Ev f w A (call (.type "range") [a, b, c]) RD.P s := fun E => by
  cases ha; cases hb; cases hc
  exact call_range_3 (by decide) ⟨⟨_, _, _, _, rfl, Heap.get?_push_size _ rfl⟩, .push'⟩
theorem iter_rangeD {f : Bool} {w : World} {A : Around} (hh : A.handled = none) : IterR f w A RD [.int 1] := fun s v G hv E Q hQ => by
  obtain ⟨r, t, u, k, rfl, hr⟩ := hv
  have hsz : Builtin.Range.rangeSize 1 0 (-1) = 1 := by decide
  refine wpAny_pyIter_range hr (by decide) (hQ _ _ (fun i v => ∃ t, v = .int (1 + i * (-1)) t) (fun i h => IsRangeIter h s.heap.objs.size (1 + (i : Nat) * (-1)) (((1 : Nat) : Int) - (i : Nat)) (-1)) ?_ (get_none_of_le (Nat.le_refl _)) .push')
  refine ⟨Walks.range hh _ 1 (-1) 1, ?_, fun b hb => ?_, fun b hb => ?_, fun b hb => ?_, fun k h st b hb => ?_, fun b hb => .inl hb, fun k h st b hb => ?_, fun i v h hi k e => ?_⟩
  rotate_left 4
  · rw [List.mem_singleton.mp hb]
    have e : h.get? s.heap.objs.size = _ := st
    refine ⟨_, e, .inr (.inr ⟨⟨_, by decide, rfl⟩, fun vs q q' t => ?_⟩)⟩
    cases q
    try (intro z; cases z)
  rotate_right 4
  · rw [hsz]
    show (s.heap.push _).get? _ = _
    rw [Heap.get?_push_size _ rfl]
    simp
  · rw [List.mem_singleton.mp hb]
    show _ < (s.heap.push _).objs.size
    rw [Heap.size_push]; omega
  · have := G.tb.lt
    have hb' := List.mem_singleton.mp hb
    exact hb' ▸ ne_of this
  · rw [List.mem_singleton.mp hb]
    exact get_none_of_le (Nat.le_refl _)
  · rw [List.mem_singleton.mp hb]
    have e : h.get? s.heap.objs.size = _ := st
    refine ⟨fun q ⟨c, o', vs, t, e1, e2, e3, e4⟩ => ?_, fun vs ⟨n, e1⟩ => ?_⟩
    · cases e1; rw [e] at e2; cases e2; cases e3; cases e4
    · rw [e] at e1; injection e1 with e1; injection e1 with _ _ e3; cases e3
  · obtain ⟨t, rfl⟩ := e
    have hi' : i = 0 := by simp at hi; omega
    subst hi'
    exact ⟨.int 1, rfl, .int _ _⟩
section
variable {w : World} {A : Around} {env : Env} {g : Heap} {ρ : Ro} {E : Value → Shared → Prop} {s : Shared} {Q : Value → Shared → Prop}
/-- a lambda without a closure, made in `_translate` after the generator -/
theorem mk_lambda {params : Arguments} {body : PySem.Expr} {scope : Scope} {pos : Pos} {l c₀ : Value} {k : Value} (G : Gd w s.heap) (h83 : s.heap.get? 83 = some (tabObj #[l, k, c₀])) (ht : TriplesOk [l, k, c₀]) (hnf : codeAmong pos [l, k, c₀] = none) (hcl : closureFor scope env = pure []) (hcode : env.code = .ref 87)
    (hge0 : env.globals = mainGlobals) (hdef : defaultsOf params env = ([], []))
    (hQ : ∀ d o s', Kps true s s' → s'.heap.get? d = some o → o.cls = .type "function" → (∃ fd, o.data = .func fd) → Q (.ref d) s') :
    wpAny (model prg w) A (eval (.Lambda params body scope pos) env) Q E s := by
  refine kla_eval hdef ?_
  obtain ⟨mg, hg⟩ := G.g
  have C : CodeHd s.heap 87 83 := codeHd_of_K G.K (by kernel_rfl)
  refine kla_makeFunction (c := 87) (P := 83) (ps := #[l, k, c₀]) (mg := mg) hcl hge0 hg hcode C h83 ht hnf (fun q => ?_) (GdBm G hg ⟨_, h83⟩) fun c' ctv h' tk hx hge hlt hrec htb => ?_
  · obtain ⟨o, es, ep, e3, hd, _⟩ := hg
    rw [q, h83] at e3; cases e3; cases hd
  · have keep : ∀ (o' : Obj) b o, b ≠ 83 → s.heap.get? b = some o → (h'.push o').get? b = some o := fun o' b o n e => Heap.get?_push_of_some _ (hx b o n e)
    refine hQ _ _ _ ⟨⟨_, _, _, rfl, id⟩, ⟨fun b o _ n e => keep _ b o (n rfl) e, fun t => ⟨?_, _, Heap.get?_push_of_some _ htb⟩⟩⟩ (Heap.get?_push_size _ rfl) rfl ⟨_, rfl⟩
    rcases t.1 with e | ⟨c₁, e, ⟨c₂, o₂, vs₂, t', e1, e2, e3, e4⟩, z⟩
    · exact .inl (keep _ _ _ (by decide) e)
    · refine .inr ⟨c₁, keep _ _ _ (by decide) e, ⟨c₂, o₂, vs₂, t', e1, keep _ _ _ (fun q => ?_) e2, e3, e4⟩, z⟩
      cases e1
      rw [q] at z
      exact absurd z (by decide)
end
end Mine

/- C20 -/
open PySem PySem.Spec PySem.Calls PySem.W PyProof.Rows
set_option maxRecDepth 100000
namespace Mine
theorem tr_str {f : Bool} {w : World} {A : Around} {s : Shared} {a : Value} {x : Str} (ha : Rp s.heap a (.str x)) (hx : x.length ≤ 1000000) : Ev f w A (truthy a) (fun _ c => c = ((x.length : Int) != 0)) s := fun E => by
  cases ha
  exact P.truthy_str (by omega) ⟨rfl, .toks⟩
abbrev fp : Str := "*.[0-9]"
def T83 (h : Heap) : Prop := ∃ c', h.get? 83 = some (tabObj #[rawInt ((92 : Nat) : Int), rawInt ((37 : Nat) : Int), .ref c'])
def orelseOf : List Stmt → List Stmt
  | .If _ _ o _ :: _ => o
  | _ => []
def thenOf : List Stmt → List Stmt
  | .If _ b _ _ :: _ => b
  | _ => []
def whileOf : List Stmt → List Stmt
  | .While _ b _ _ :: _ => b
  | _ => []
noncomputable def brBody (P : Params) : List Stmt := thenOf (orelseOf (orelseOf ((whileOf ((bodyOf P 88).drop 3)).drop 2)))
noncomputable def brElse (P : Params) : List Stmt := orelseOf ((brBody P).drop 4)
noncomputable def chBody (P : Params) : List Stmt := orelseOf ((brElse P).drop 1)
theorem off1_At {D D' : Addr} {ps qs : List PV} (n : ¬ Occ (.list ps) (.list qs)) : Off1 D ps (At D' qs) := fun h h' v r k ⟨e, x⟩ => ⟨e, off1_R n h h' _ r k x⟩
theorem tab_soft (ps : Array Value) : ¬ frameish (tabObj ps) := fun q => by
  rcases q with ⟨_, _, q⟩ | ⟨_, q⟩ | ⟨q, _⟩
  · cases q
  · cases q
  · obtain ⟨T, _, q⟩ := q
    cases q
section
variable {f : Bool} {w : World} {A : Around} {env : Env} {g : Heap} {mu : List Addr} {ρ ρ' : Ro} {Q : Heap → Prop} {rest : List Stmt} {st : Stmt} {pos : Pos}
theorem xs_brk (h : X1 f w A env g mu ρ st (fun fl h => fl = .brk ∧ Q h)) : XS f w A env g mu ρ (st :: rest) (fun fl h => fl = .brk ∧ Q h) := fun s K F E => by
  refine wpAny_execs_cons (wpAny_mono (h s K F E) (fun fl s' x => ?_) fun _ _ e => e)
  obtain ⟨⟨rfl, q⟩, K', R'⟩ := x
  exact ⟨⟨rfl, q⟩, K', R'⟩
theorem x_break (h : Sub ρ ρ') : X1 f w A env g mu ρ (.Break pos) (fun fl h => fl = .brk ∧ FrS env g h ρ') := fun s K F E => wpAny_Break ⟨⟨rfl, F.sub h⟩, K, .refl _⟩
end
def its : List PV := [PV.none, .str "\\."]
def kW : Nat → Int
  | 0 => 4
  | _ => 7
def iW : Nat → Int
  | 0 => 3
  | _ => 5
def cW : Nat → List PV
  | 0 => []
  | _ => [.str "0"]
set_option maxHeartbeats 4000000 in
theorem ch_walk {w : World} {A : Around} {g : Heap} {L D : Addr} (hR : Room 1 A) (G : Gd w g) (h83 : g.get? 83 = some (tabObj #[])) :
    XM w A (callEnvC (fdOf w.params 88) L 88) g [D] [("stuff", R (.str "0-9")), ("j", R (.int 6)), ("i", R (.int 3)), ("res", At D its), ("add", Bd D), ("n", R (.int 7)), ("pat", R (.str fp)), ("STAR", R .none)] (chBody w.params)
      (fun fl h => nextP (callEnvC (fdOf w.params 88) L 88) g [("stuff", R (.str "0-9")), ("j", R (.int 6)), ("res", At D its), ("add", Bd D), ("n", R (.int 7)), ("pat", R (.str fp)), ("STAR", R .none)] fl h ∧ T83 h) := by
  refine xm_newlist G (.inl rfl) fun C hC => ?_
  refine xm_one (x_set (P := R (.int 4)) G (ev_ifexp (bb := false) (EB.cast (eb_cmp (P1 := R (.str ⟨#[48]⟩)) (P2 := R (.str "!")) (ev_sub (P1 := R (.str fp)) (P2 := R (.int 3)) (ev_name rfl) (ev_name rfl) (fun s a b _ ha hb => op_item_str (c := 48) ha hb (by decide) (by decide) (by decide))) ev_cstr (fun s a c _ ha hc => op_eq_str ha hc)) (by decide)) (fun q => by cases q)
    (fun _ => EV.cast (ev_bin (P1 := R (.int 3)) (P2 := R (.int 1)) (P := R (.int (3 + 1))) (ev_name rfl) ev_cint (fun s a b _ ha hb => op_add_int ha hb)) rfl)) off_any (.inl rfl)) ?_
  let ρs : Nat → Ro := fun k => [("k", R (.int (kW k))), ("i", R (.int (iW k))), ("chunks", At C (cW k)), ("j", R (.int 6)), ("res", At D its), ("add", Bd D), ("n", R (.int 7)), ("pat", R (.str fp)), ("STAR", R .none)]
  refine xm_one (ρ' := [("i", R (.int 5)), ("chunks", At C [.str "0"]), ("j", R (.int 6)), ("res", At D its), ("add", Bd D), ("n", R (.int 7)), ("pat", R (.str fp)), ("STAR", R .none)]) (x_sub (ρ0 := ρs 0) (sub_cons (sub_cons (sub_cons (sub_cons (sub_cons (sub_cons (sub_cons (sub_cons (sub_cons sub_nil))))))))) (x_whileB (n := 1) (ρs := ρs) G (fun k hk => eb_bool ev_cbool) (fun k hk => ?_) ?_)) ?_
  · obtain rfl : k = 0 := by omega
    refine xs_one (x_set (P := R (.int 4)) G (EV.cast (ev_meth (P1 := R (.str fp)) (P := R (.int (find4 fp "-" 4 6))) (ev_name rfl) (gm_str F.slot_str_find F.type_str_find) (evs_cons (P := R (.str "-")) ev_cstr (evs_cons (P := R (.int 4)) (ev_name rfl) (evs_cons (P := R (.int 6)) (ev_name rfl) evs_nil))) (fun s v vs G r hv => ?_)) (congrArg PV.int (by decide +kernel))) off_any (.inl rfl)) ?_
    · obtain ⟨a, b, c, rfl, ha, hb, hc⟩ := sp3 hv
      exact m_find4 r ha hb hc
    refine xs_one (ρ' := [("k", R (.int 4)), ("i", R (.int 3)), ("chunks", At C []), ("j", R (.int 6)), ("res", At D its), ("add", Bd D), ("n", R (.int 7)), ("pat", R (.str fp)), ("STAR", R .none)]) (x_if (b := false) G (EB.cast (eb_cmp (P1 := R (.int 4)) (P2 := R (.int 0)) (ev_name rfl) ev_cint (fun s a c _ ha hc => op_lt_int ha hc)) (by decide)) (fun q => by cases q) (fun _ => xs_sub (sub_cons (sub_cons (sub_cons (sub_cons (sub_cons (sub_cons (sub_cons (sub_cons (sub_cons sub_nil))))))))))) ?_
    refine xs_one (x_append (x := "chunks") (ps := []) (p := .str "0") (ρ' := [("k", R (.int 4)), ("i", R (.int 3)), ("j", R (.int 6)), ("res", At D its), ("add", Bd D), ("n", R (.int 7)), ("pat", R (.str fp)), ("STAR", R .none)]) G hC (.head _)
      (EV.cast (ev_sub (P1 := R (.str fp)) (P2 := SL (some 3) (some 4) none) (ev_name rfl) (ev_slice (ep_some (ev_name rfl)) (ep_some (ev_name rfl)) ep_none) (fun s a b _ ha hb => op_str_slice (by decide) ha hb)) (congrArg PV.str (by decide)))
      rfl (not_occ_atom fun l q => by cases q) (by decide) (keep1_cons (off1_atom fun l q => by cases q) (keep1_cons (off1_atom fun l q => by cases q) (keep1_cons (off1_atom fun l q => by cases q) (keep1_cons (off1_At (not_occ_flat (by decide) (fun p hp l z => by simp [its] at hp; rcases hp with rfl | rfl <;> cases z))) (keep1_cons off1_Bd (keep1_cons (off1_atom fun l q => by cases q) (keep1_cons (off1_atom fun l q => by cases q) (keep1_cons (off1_atom fun l q => by cases q) keep1_nil))))))))) ?_
    refine xs_one (x_set (P := R (.int 5)) G (EV.cast (ev_bin (P1 := R (.int 4)) (P2 := R (.int 1)) (P := R (.int (4 + 1))) (ev_name rfl) ev_cint (fun s a b _ ha hb => op_add_int ha hb)) rfl) off_any (.inl rfl)) ?_
    refine xs_one (x_set (P := R (.int 7)) G (EV.cast (ev_bin (P1 := R (.int 4)) (P2 := R (.int 3)) (P := R (.int (4 + 3))) (ev_name rfl) ev_cint (fun s a b _ ha hb => op_add_int ha hb)) rfl) off_any (.inl rfl)) ?_
    exact xs_sub (sub_cons (sub_cons (sub_cons (sub_cons (sub_cons (sub_cons (sub_cons (sub_cons (sub_cons sub_nil)))))))))
  · refine xs_one (x_set (P := R (.int (-1))) G (EV.cast (ev_meth (P1 := R (.str fp)) (P := R (.int (find4 fp "-" 7 6))) (ev_name rfl) (gm_str F.slot_str_find F.type_str_find) (evs_cons (P := R (.str "-")) ev_cstr (evs_cons (P := R (.int 7)) (ev_name rfl) (evs_cons (P := R (.int 6)) (ev_name rfl) evs_nil))) (fun s v vs G r hv => ?_)) (congrArg PV.int (by decide +kernel))) off_any (.inl rfl)) ?_
    · obtain ⟨a, b, c, rfl, ha, hb, hc⟩ := sp3 hv
      exact m_find4 r ha hb hc
    refine xs_brk (x_if (b := true) G (EB.cast (eb_cmp (P1 := R (.int (-1))) (P2 := R (.int 0)) (ev_name rfl) ev_cint (fun s a c _ ha hc => op_lt_int ha hc)) (by decide)) (fun _ => xs_brk (x_break (sub_cons (sub_cons (sub_cons (sub_cons (sub_cons (sub_cons (sub_cons (sub_cons sub_nil)))))))))) (fun q => by cases q))
  refine xm_one (x_set (P := R (.str "9")) G (EV.cast (ev_sub (P1 := R (.str fp)) (P2 := SL (some 5) (some 6) none) (ev_name rfl) (ev_slice (ep_some (ev_name rfl)) (ep_some (ev_name rfl)) ep_none) (fun s a b _ ha hb => op_str_slice (by decide) ha hb)) (congrArg PV.str (by decide))) off_any (.inl rfl)) ?_
  let ρf : Nat → Ro := fun _ => [("chunks", At C [.str "0", .str "9"]), ("j", R (.int 6)), ("res", At D its), ("add", Bd D), ("n", R (.int 7)), ("pat", R (.str fp)), ("STAR", R .none)]
  refine xm_one (ρ' := ρf 0) (x_if (b := true) G (eb_val (P := R (.str "9")) (ev_name rfl) (fun s v G r => tr_str (x := "9") r (by decide))) (fun _ => ?_) (fun q => by cases q)) ?_
  · refine xs_one (x_append (x := "chunks") (ps := [.str "0"]) (p := .str "9") (ρ' := [("j", R (.int 6)), ("res", At D its), ("add", Bd D), ("n", R (.int 7)), ("pat", R (.str fp)), ("STAR", R .none)]) G hC (.head _) (ev_name rfl)
      rfl (not_occ_atom fun l q => by cases q) (by decide) (keep1_cons (off1_atom fun l q => by cases q) (keep1_cons (off1_At (not_occ_flat (by decide) (fun p hp l z => by simp [its] at hp; rcases hp with rfl | rfl <;> cases z))) (keep1_cons off1_Bd (keep1_cons (off1_atom fun l q => by cases q) (keep1_cons (off1_atom fun l q => by cases q) (keep1_cons (off1_atom fun l q => by cases q) keep1_nil))))))) ?_
    exact xs_sub (sub_cons (sub_cons (sub_cons (sub_cons (sub_cons (sub_cons (sub_cons sub_nil)))))))
  have chs : ∀ {ρ : Ro} {pos : Pos}, ρ.lookup ("chunks" : Str) = some (At C [.str "0", .str "9"]) → EV false w A (callEnvC (fdOf w.params 88) L 88) ρ (.Name "chunks" pos) (R (.list [.str "0", .str "9"])) := fun h => ev_at (ev_name h)
  refine xm_one (ρ' := ρf 1) (x_for (ρs := ρf) (P1 := RD) (ps := [.int 1]) G ?_ (iter_rangeD hR.1) (fun b hb => ?_) (sub_cons (sub_cons (sub_cons (sub_cons (sub_cons (sub_cons (sub_cons sub_nil))))))) (fun p hp l => ?_) (fun i => bas_cons (bas_cons (bas_cons (bas_cons (bas_cons (bas_cons (bas_cons bas_nil (.inl rfl)) (.inl rfl)) (.inl rfl)) (.inl rfl)) (.inl rfl)) (.inl rfl)) (.inl rfl)) (.inl rfl) (fun i p hp => ?_)) ?_
  · refine ev_callt (id := "range") (ev_blt (v := .type "range") (fun _ => rfl) (by rfl) (fun h => .ty _)) (evs_cons (P := R (.int 1)) (EV.cast (ev_bin (P1 := R (.int 2)) (P2 := R (.int 1)) (P := R (.int (2 - 1))) (ev_callb (id := "len") (ev_blt (v := .builtin "len") (fun _ => rfl) (by rfl) (fun h => .bi _)) (evs_cons (P := R (.list [.str "0", .str "9"])) (chs rfl) evs_nil) (fun s vs G h => ?_)) ev_cint (fun s a b _ ha hb => op_sub_int ha hb)) rfl) (evs_cons (P := R (.int 0)) ev_cint (evs_cons (P := R (.int (-1))) (ev_neg ev_cint) evs_nil))) (fun s vs G h => ?_)
    · obtain ⟨a, rfl, ha⟩ := sp1 h
      exact op_len_list (f := false) (w := w) (A := A) ha (by decide)
    · obtain ⟨a, b, c, rfl, ha, hb, hc⟩ := sp3 h
      exact op_rangeD ha hb hc
  · rcases List.mem_cons.mp hb with rfl | hb
    · exact ⟨"chunks", _, rfl⟩
    · rw [List.mem_singleton.mp hb]
      exact ⟨"res", _, rfl⟩
  · rw [List.mem_singleton.mp hp]
    intro z; cases z
  · have hp1 : p = .int 1 := by
      cases i with
      | zero => cases hp; rfl
      | succ i => cases hp
    subst hp1
    refine xs_one (ρ' := ρf (i + 1)) (x_if (b := false) G (EB.cast (eb_cmp (P1 := R (.str ⟨#[48]⟩)) (P2 := R (.str ⟨#[57]⟩))
      (ev_sub (P1 := R (.str "0")) (P2 := R (.int (-1))) (ev_sub (P1 := R (.list [.str "0", .str "9"])) (P2 := R (.int 0)) (chs rfl) (EV.cast (ev_bin (P1 := R (.int 1)) (P2 := R (.int 1)) (P := R (.int (1 - 1))) (ev_name rfl) ev_cint (fun s a b _ ha hb => op_sub_int ha hb)) rfl) (fun s a b _ ha hb => op_item_list ha hb (by decide) (by decide) rfl)) (ev_neg ev_cint) (fun s a b _ ha hb => op_item_str (c := 48) ha hb (by decide) (by decide) (by decide)))
      (ev_sub (P1 := R (.str "9")) (P2 := R (.int 0)) (ev_sub (P1 := R (.list [.str "0", .str "9"])) (P2 := R (.int 1)) (chs rfl) (ev_name rfl) (fun s a b _ ha hb => op_item_list ha hb (by decide) (by decide) rfl)) ev_cint (fun s a b _ ha hb => op_item_str (c := 57) ha hb (by decide) (by decide) (by decide)))
      (fun s a c _ ha hc => op_gt_str ha hc)) (by decide)) (fun q => by cases q) (fun _ => ?_)) ?_
    · exact xs_sub (sub_cons (sub_cons (sub_cons (sub_cons (sub_cons (sub_cons (sub_cons sub_nil)))))))
    · exact xs_nil fun h F => ⟨rfl, F⟩
  refine xm_last (fun s K F E => ?_) (fun fl h q => q.1.1)
  have G₁ := G.kp K
  have t₁ : s.heap.get? 83 = some (tabObj #[]) := K.keep 83 _ (by decide) (fun q => by cases q) h83
  refine wpAny_Assign_Name (gen_join (ss := ["0", "9"]) G₁ t₁ F.vars rfl (hR.weak (by decide)) rfl rfl (fun C code bi A' E' a t s₂ m₂ ha hn hm => ?_) (by decide) (by decide) (fun s' t' k t83 => ?_) rfl rfl (by decide) rfl rfl rfl rfl (by decide) (by decide) (fun _ => rfl) rfl rfl) rfl
  · have ho : ∀ y ∈ (["\\", "-"] : List Str), (Builtin.Str.occurrences a y 0 a.length (a.length + 1)).isEmpty = true := by
      simp only [List.mem_cons, List.not_mem_nil, or_false] at ha
      rcases ha with rfl | rfl <;> decide +kernel
    refine eval_replace (x := a) (eval_replace (x := a) (wpAny_Name (wpAny_loadName_local rfl rfl hn hm ⟨t, rfl, fun tk => ⟨t, rfl, fun tk => ⟨⟨t, rfl⟩, _, _, rfl, fun _ _ e => e⟩⟩⟩) (by decide)) (ho _ (.head _))) (ho _ (.tail _ (.head _)))
  · have e : Txt.join "-" ["0", "9"] = ("0-9" : Str) := by decide
    rw [e]
    refine store_ (f := true) (P := R (.str "0-9")) (F.kp k.kp G₁.tb) (K.up.trans k.kp) (.str _ _) off_R rfl (.inl rfl) fun s₂ K₂ F₂ R₂ S₂ => ⟨⟨⟨rfl, F₂.sub (sub_cons (sub_cons (sub_cons (sub_cons (sub_cons (sub_cons (sub_cons sub_nil)))))))⟩, ?_⟩, K₂, (RO.of k).trans R₂.left⟩
    obtain ⟨c', h'⟩ := t83
    exact ⟨c', S₂.get h' (tab_soft _)⟩
end Mine

/- C21 -/
open PySem PySem.Spec PySem.Calls PySem.W PyProof.Rows
set_option maxRecDepth 100000
namespace Mine
theorem xm_two {w : World} {A : Around} {env : Env} {g : Heap} {mu : List Addr} {ρ ρ1 ρ2 : Ro} {st1 st2 : Stmt} {rest : List Stmt} {Q : Post} {T : Heap → Prop} (h1 : X1M w A env g mu ρ st1 (fun fl h => nextP env g ρ1 fl h ∧ T h))
    (h2 : ∀ s, Kp true g s.heap → FrS env g s.heap ρ1 → T s.heap → ∀ E, wpAny (model prg w) A (exec st2 env) (fun fl s' => nextP env g ρ2 fl s'.heap ∧ Kp true g s'.heap ∧ RO true (ownOf env ++ mu) s s') E s)
    (h3 : XS true w A env g mu ρ2 rest Q) : XM w A env g mu ρ (st1 :: st2 :: rest) Q := fun s K F E => by
  refine wpAny_execs_cons (wpAny_mono (h1 s K F E) (fun fl s₁ x => ?_) fun _ _ e => e)
  obtain ⟨⟨⟨rfl, F₁⟩, t⟩, K₁, R₁⟩ := x
  refine wpAny_execs_cons (wpAny_mono (h2 s₁ K₁ F₁ t E) (fun fl s₂ x => ?_) fun _ _ e => e)
  obtain ⟨⟨rfl, F₂⟩, K₂, R₂⟩ := x
  exact wpAny_mono (h3 s₂ K₂ F₂ E) (fun _ _ y => ⟨y.1, y.2.1, (R₁.trans R₂).trans y.2.2⟩) fun _ _ e => e
set_option maxHeartbeats 4000000 in
theorem el_walk {w : World} {A : Around} {g : Heap} {L D : Addr} (hR : Room 1 A) (G : Gd w g) (hD : New g D) (h83 : g.get? 83 = some (tabObj #[])) :
    XM w A (callEnvC (fdOf w.params 88) L 88) g [D] [("j", R (.int 6)), ("i", R (.int 3)), ("res", At D its), ("add", Bd D), ("n", R (.int 7)), ("pat", R (.str fp)), ("STAR", R .none)] (brElse w.params)
      (nextP (callEnvC (fdOf w.params 88) L 88) g [("i", R (.int 7)), ("res", At D (figItems.map pO)), ("add", Bd D), ("n", R (.int 7)), ("pat", R (.str fp)), ("STAR", R .none)]) := by
  refine xm_one (x_set (P := R (.str "0-9")) G (EV.cast (ev_sub (P1 := R (.str fp)) (P2 := SL (some 3) (some 6) none) (ev_name rfl) (ev_slice (ep_some (ev_name rfl)) (ep_some (ev_name rfl)) ep_none) (fun s a b _ ha hb => op_str_slice (by decide) ha hb)) (congrArg PV.str (by decide))) off_any (.inl rfl)) ?_
  refine xm_two (T := T83) (ρ1 := [("stuff", R (.str "0-9")), ("j", R (.int 6)), ("res", At D its), ("add", Bd D), ("n", R (.int 7)), ("pat", R (.str fp)), ("STAR", R .none)]) (ρ2 := [("stuff", R (.str "0-9")), ("stuff", R (.str "0-9")), ("j", R (.int 6)), ("res", At D its), ("add", Bd D), ("n", R (.int 7)), ("pat", R (.str fp)), ("STAR", R .none)])
    (xm_if (b := false) G (EB.cast (eb_cmp (P1 := R (.str "-")) (P2 := R (.str "0-9")) ev_cstr (ev_name rfl) (fun s a c _ ha hc => op_notin_sub ha hc)) (by decide +kernel)) (fun q => by cases q) (fun _ => ch_walk hR G h83)) (fun s K F T E => ?_) ?_
  · obtain ⟨c', t⟩ := T
    have G₀ := G.kp K
    refine wpAny_Assign_Name (MethodCall_ (wpAny_mono ((ev_glob (f := false) (w := w) (A := A) (v := .ref 69) (p := .obj 69) (fun _ => rfl) (fun h => .obj 69 (by decide))) s G₀ F.vars E) (fun v s₁ h₁ => ?_) fun _ _ e => e) rfl) rfl
    obtain ⟨hv, k₁⟩ := h₁
    have G₁ := G₀.kp k₁.kp
    have t₁ := k₁.kp.keep 83 _ (by decide) (fun q => by cases q) t
    have F₁ := F.kp k₁.kp G₀.tb
    refine gm_pat69 slot_sub type_sub s₁ v G₁ hv _ _ ?_
    refine callWith_method1 ?_ rfl rfl
    refine spliced_cons ?_
    refine if_not rfl ?_
    refine mk_lambda G₁ t₁ trivial rfl rfl rfl rfl rfl fun d o s₂ k₂ ho hc hd => ?_
    have G₂ := G₁.kp k₂.kp
    have F₂ := F₁.kp k₂.kp G₁.tb
    have ev1 : ∀ {p : Pos}, EVs true w A (callEnvC (fdOf w.params 88) L 88) [("stuff", R (.str "0-9")), ("j", R (.int 6)), ("res", At D its), ("add", Bd D), ("n", R (.int 7)), ("pat", R (.str fp)), ("STAR", R .none)] [.Name "stuff" p] [R (.str "0-9")] := evs_cons (ev_name rfl) evs_nil
    refine wpAny_mono (ev1 s₂ _ G₂ F₂.vars E) (fun vs s₃ h₃ => ?_) fun _ _ e => e
    obtain ⟨hvs, k₃⟩ := h₃
    obtain ⟨u, rfl, hu⟩ := sp1 hvs
    have G₃ := G₂.kp k₃.kp
    have F₃ := F₂.kp k₃.kp G₂.tb
    have ho₃ : s₃.heap.get? d = some o := k₃.kp.get G₂.tb ho (fun ps q => by subst q; obtain ⟨fd, hd⟩ := hd; cases hd)
    obtain ⟨fd, hd⟩ := hd
    refine wpAny_mono (op_sub (f := true) G₃ (Rp.kp k₃.kp G₂.tb (Rp.kp k₂.kp G₁.tb hv)) ⟨d, o, fd, rfl, ho₃, hc, hd⟩ hu E) (fun v s₄ h₄ => ?_) fun _ _ e => e
    obtain ⟨hv₄, k₄⟩ := h₄
    have kk : Kps true s s₄ := ((k₁.weak.trans k₂).trans k₃).trans k₄
    refine store_ (f := true) (P := R (.str "0-9")) (F₃.kp k₄.kp G₃.tb) (K.trans kk.kp) hv₄ off_R rfl (.inl rfl) fun s₅ K₅ F₅ R₅ _ => ⟨⟨rfl, F₅⟩, K₅, (RO.of kk).trans R₅.left⟩
  · refine xs_one (x_set (P := R (.int 7)) G (EV.cast (ev_bin (P1 := R (.int 6)) (P2 := R (.int 1)) (P := R (.int (6 + 1))) (ev_name rfl) ev_cint (fun s a b _ ha hb => op_add_int ha hb)) rfl) off_any (.inl rfl)) ?_
    have ch0 : ∀ {ρ : Ro} {p1 p2 pos : Pos} {k : Nat}, ρ.lookup ("stuff" : Str) = some (R (.str "0-9")) → EV true w A (callEnvC (fdOf w.params 88) L 88) ρ (.Subscript (.Name "stuff" p1) (.Constant (.int 0) k p2) pos) (R (.str ⟨#[48]⟩)) := fun h => ev_sub (P1 := R (.str "0-9")) (P2 := R (.int 0)) (ev_name h) ev_cint (fun s a b _ ha hb => op_item_str (c := 48) ha hb (by decide) (by decide) (by decide))
    let ρr : Ro := [("stuff", R (.str "0-9")), ("i", R (.int 7)), ("res", At D its), ("add", Bd D), ("n", R (.int 7)), ("pat", R (.str fp)), ("STAR", R .none)]
    let ρe : Ro := [("i", R (.int 7)), ("res", At D (figItems.map pO)), ("add", Bd D), ("n", R (.int 7)), ("pat", R (.str fp)), ("STAR", R .none)]
    refine xs_one (ρ' := ρe) (x_sub (ρ0 := ρr) (sub_cons (sub_cons (sub_cons (sub_cons (sub_cons (sub_cons (sub_cons sub_nil))))))) (x_if (b := false) G (EB.cast (eb_not (eb_val (P := R (.str "0-9")) (ev_name rfl) (fun s v G r => tr_str (x := "0-9") r (by decide)))) (by decide)) (fun q => by cases q) (fun _ => ?_))) (xs_nil fun h F => ⟨rfl, F⟩)
    refine xs_one (ρ' := ρe) (x_if (b := false) G (EB.cast (eb_cmp (P1 := R (.str "0-9")) (P2 := R (.str "!")) (ev_name rfl) ev_cstr (fun s a c _ ha hc => op_eq_str ha hc)) (by decide)) (fun q => by cases q) (fun _ => ?_)) (xs_nil fun h F => ⟨rfl, F⟩)
    refine xs_one (ρ' := ρr) (x_if (b := false) G (EB.cast (eb_cmp (P1 := R (.str ⟨#[48]⟩)) (P2 := R (.str "!")) (ch0 rfl) ev_cstr (fun s a c _ ha hc => op_eq_str ha hc)) (by decide)) (fun q => by cases q) (fun _ => ?_)) ?_
    · refine xs_one (ρ' := ρr) (x_if (b := false) G (EB.cast (eb_cmp (P1 := R (.str ⟨#[48]⟩)) (P2 := TU ["^", "["]) (ch0 rfl) (ev_tuple (ss := ["^", "["]) (evs_cons ev_cstr (evs_cons ev_cstr evs_nil)) (by decide)) (fun s a c _ ha hc => op_in_tu ha hc)) (by decide)) (fun q => by cases q) (fun _ => xs_nil fun h F => ⟨rfl, F⟩)) (xs_nil fun h F => ⟨rfl, F⟩)
    · refine xs_one (x_add (x := "res") (p := .str "[0-9]") (ρ' := [("i", R (.int 7)), ("add", Bd D), ("n", R (.int 7)), ("pat", R (.str fp)), ("STAR", R .none)]) G hD (.head _) (ev_name rfl) (EV.cast (ev_joined3 (c1 := "[") (c2 := "]") (x := "0-9") ev_cstr (ev_fv (ev_name rfl) (by decide)) ev_cstr (by decide)) (congrArg PV.str (by decide))) rfl (not_occ_atom fun l q => by cases q) (by decide)
        (keep1_cons (off1_atom fun l q => by cases q) (keep1_cons off1_Bd (keep1_cons (off1_atom fun l q => by cases q) (keep1_cons (off1_atom fun l q => by cases q) (keep1_cons (off1_atom fun l q => by cases q) keep1_nil)))))) ?_
      exact xs_sub (sub_cons (sub_cons (sub_cons (sub_cons (sub_cons (sub_cons sub_nil))))))
end Mine

/- C22 -/
open PySem PySem.Spec PySem.Calls PySem.W PyProof.Rows
set_option maxRecDepth 100000
namespace Mine
set_option maxHeartbeats 4000000 in
theorem br_walk {w : World} {A : Around} {g : Heap} {L D : Addr} (hR : Room 1 A) (G : Gd w g) (hD : New g D) (h83 : g.get? 83 = some (tabObj #[])) :
    XM w A (callEnvC (fdOf w.params 88) L 88) g [D] [("i", R (.int 3)), ("res", At D its), ("add", Bd D), ("n", R (.int 7)), ("pat", R (.str fp)), ("STAR", R .none)] (brBody w.params)
      (nextP (callEnvC (fdOf w.params 88) L 88) g [("i", R (.int 7)), ("res", At D (figItems.map pO)), ("add", Bd D), ("n", R (.int 7)), ("pat", R (.str fp)), ("STAR", R .none)]) := by
  let ρj : Nat → Ro := fun k => [("j", R (.int ((3 + k : Nat) : Int))), ("i", R (.int 3)), ("res", At D its), ("add", Bd D), ("n", R (.int 7)), ("pat", R (.str fp)), ("STAR", R .none)]
  have sb : ∀ k, Sub (ρj k) (ρj k) := fun k => sub_cons (sub_cons (sub_cons (sub_cons (sub_cons (sub_cons (sub_cons sub_nil))))))
  have jn : ∀ k, k ≤ 3 → ∀ {p p1 p2 : Pos}, EB false w A (callEnvC (fdOf w.params 88) L 88) (ρj k) (.Compare (.Name "j" p1) [.Lt] [.Name "n" p2] p) true := fun k hk => EB.cast (eb_cmp (P1 := R (.int ((3 + k : Nat) : Int))) (P2 := R (.int 7)) (ev_name rfl) (ev_name rfl) (fun s a c _ ha hc => op_lt_int ha hc)) (by rw [decide_eq_true_iff]; omega)
  refine xm_one (ρ' := ρj 0) (x1_sub (x_set (P := R (.int 3)) G (ev_name rfl) off_any (.inl rfl)) (sub_cons (sub_cons (sub_cons (sub_cons (sub_cons (sub_cons (sub_cons sub_nil)))))))) ?_
  refine xm_one (ρ' := ρj 0) (x_if (b := false) G (EB.cast (eb_and2 (a := true) (b := false) (jn 0 (by decide)) (fun _ => EB.cast (eb_cmp (P1 := R (.str ⟨#[48]⟩)) (P2 := R (.str "!")) (ev_sub (P1 := R (.str fp)) (P2 := R (.int 3)) (ev_name rfl) (ev_name rfl) (fun s a b _ ha hb => op_item_str (c := 48) ha hb (by decide) (by decide) (by decide))) ev_cstr (fun s a c _ ha hc => op_eq_str ha hc)) (by decide))) rfl) (fun q => by cases q) (fun _ => xs_nil fun h F => ⟨rfl, F⟩)) ?_
  refine xm_one (ρ' := ρj 0) (x_if (b := false) G (EB.cast (eb_and2 (a := true) (b := false) (jn 0 (by decide)) (fun _ => EB.cast (eb_cmp (P1 := R (.str ⟨#[48]⟩)) (P2 := R (.str "]")) (ev_sub (P1 := R (.str fp)) (P2 := R (.int 3)) (ev_name rfl) (ev_name rfl) (fun s a b _ ha hb => op_item_str (c := 48) ha hb (by decide) (by decide) (by decide))) ev_cstr (fun s a c _ ha hc => op_eq_str ha hc)) (by decide))) rfl) (fun q => by cases q) (fun _ => xs_nil fun h F => ⟨rfl, F⟩)) ?_
  refine xm_one (ρ' := ρj 3) (x_while (n := 3) (ρs := ρj) G (fun k hk => ?_) (fun k hk => ?_)) ?_
  · refine EB.cast (eb_and2 (a := true) (b := decide (k < 3)) (jn k hk) (fun _ => ?_)) rfl
    refine EB.cast (eb_cmp (P1 := R (.str ⟨#[fp.cps[3 + k]?.getD 0]⟩)) (P2 := R (.str "]")) (ev_sub (P1 := R (.str fp)) (P2 := R (.int ((3 + k : Nat) : Int))) (ev_name rfl) (ev_name rfl) (fun s a b _ ha hb => op_item_str (c := fp.cps[3 + k]?.getD 0) ha hb (by omega) (by omega) ?_)) ev_cstr (fun s a c _ ha hc => op_ne_str ha hc)) ?_
    · obtain rfl | rfl | rfl | rfl : k = 0 ∨ k = 1 ∨ k = 2 ∨ k = 3 := by omega
      all_goals decide
    · obtain rfl | rfl | rfl | rfl : k = 0 ∨ k = 1 ∨ k = 2 ∨ k = 3 := by omega
      all_goals decide
  · refine xs_one (x_set (P := R (.int ((3 + (k + 1) : Nat) : Int))) G (EV.cast (ev_bin (P1 := R (.int ((3 + k : Nat) : Int))) (P2 := R (.int 1)) (P := R (.int (((3 + k : Nat) : Int) + 1))) (ev_name rfl) ev_cint (fun s a b _ ha hb => op_add_int ha hb)) (congrArg PV.int (by omega))) off_any (.inl rfl)) ?_
    exact xs_sub (sub_cons (sub_cons (sub_cons (sub_cons (sub_cons (sub_cons (sub_cons sub_nil)))))))
  refine xm_last (xm_if (b := false) G (EB.cast (eb_cmp (P1 := R (.int ((3 + 3 : Nat) : Int))) (P2 := R (.int 7)) (ev_name rfl) (ev_name rfl) (fun s a c _ ha hc => op_ge_int ha hc)) (by decide)) (fun q => by cases q) (fun _ => el_walk hR G hD h83)) (fun fl h q => q.1)
set_option maxHeartbeats 8000000 in
theorem translate83 (w : World) : Spec83 w 2 88 [.str "*.[0-9]", .none, .str "?"] (.list (figItems.map pO)) := by
  intro A s vs hR G h83 hvs
  refine spec_defAt (f := true) (n := 1) (s := s) (args := [R (.str fp), R .none, R (.str "?")]) (res := R (.list (figItems.map pO))) (fd := fdOf w.params 88) (body := bodyOf w.params 88) (names := ["pat", "STAR", "QUESTION_MARK"]) rfl rfl rfl ?_ rfl (by decide) (by rfl) ?_ (show ([] : List Str).Nodup from List.nodup_nil) rfl rfl rfl rfl A vs hR G hvs.sps
  · intro vs hl G
    match vs, hl with
    | [v, u, t], _ => exact BindsTo.of_eq rfl
  · intro A L hR G s₁ K₁ F₁ E
    generalize hg : s.heap = g at *
    have key : XM w A (callEnvC (fdOf w.params 88) L 88) g [] [("pat", R (.str fp)), ("STAR", R .none), ("QUESTION_MARK", R (.str "?"))] (bodyOf w.params 88) (retP (R (.list (figItems.map pO)))) := by
      refine xm_newlist G (.inl rfl) fun D hD => ?_
      refine xm_one (x_set G (ev_bound (ps := []) (D := D) (ev_name rfl)) off_any (.inl rfl)) ?_
      refine xm_one (x_set2 G hR.1 (P1 := R (.int 0)) (P2 := R (.int 7)) ev_cint (ev_callb (id := "len") (ev_blt (v := .builtin "len") (fun _ => rfl) (by rfl) (fun h => .bi _)) (evs_cons (P := R (.str fp)) (ev_name rfl) evs_nil) (fun s vs G h => ?_)) rfl rfl) ?_
      · obtain ⟨a, rfl, ha⟩ := sp1 h
        exact op_len_str (x := fp) ha (by decide)
      let ρs : Nat → Ro := fun k => [("i", R (.int k)), ("res", At D ((trN fp k).map pO)), ("add", Bd D), ("n", R (.int 7)), ("pat", R (.str fp)), ("STAR", R .none)]
      let ρe : Ro := [("i", R (.int 7)), ("res", At D (figItems.map pO)), ("add", Bd D), ("n", R (.int 7)), ("pat", R (.str fp)), ("STAR", R .none)]
      have e2 : (trN fp 2).map pO = its := by
        rw [show trN fp 2 = [none, some ("\\." : Str)] by decide]; rfl
      refine xm_go (ρ' := ρe) (x1m_sub (ρ0 := ρs 0) (sub_cons (sub_cons (sub_cons (sub_cons (sub_cons (sub_cons sub_nil)))))) (xm_while (n := 2) (ρs := ρs) G (fun k hk => ?_) (fun k hk => ?_) ?_ ?_)) ?_
      · refine EB.cast (eb_cmp (P1 := R (.int k)) (P2 := R (.int 7)) (ev_name rfl) (ev_name rfl) (fun s a c _ ha hc => op_lt_int ha hc)) ?_
        rw [decide_eq_true_iff]; omega
      · have hk' : k < fp.cps.size := Nat.lt_of_lt_of_le hk (by decide)
        obtain ⟨c, ec⟩ : ∃ c, fp.cps[k]? = some c := ⟨fp.cps[k], by simp [hk']⟩
        have hcm : c ∈ trChars := by
          obtain rfl | rfl : k = 0 ∨ k = 1 := by omega
          · cases ec; decide
          · cases ec; decide
        have h7 : fp.length = 7 := by decide
        have hidx : (seqIndex? (k : Int) fp.length).bind (fp.cps[·]?) = some c := by
          unfold seqIndex?
          have h1 : ¬ ((k : Int) < 0) := by omega
          have h2 : (k : Int) < fp.length := by omega
          simp [h1, h2, ec]
        have hlen := trN_len fp k
        refine xs_one (x_set (P := R (.str ⟨#[c]⟩)) G (ev_sub (P1 := R (.str fp)) (P2 := R (.int k)) (ev_name rfl) (ev_name rfl) (fun s a b _ ha hb => op_item_str ha hb (by omega) (by omega) hidx)) off_any (.inl rfl)) ?_
        refine xs_one (x_set (P := R (.int ((k + 1 : Nat) : Int))) G (EV.cast (ev_bin (P1 := R (.int k)) (P2 := R (.int 1)) (P := R (.int (k + 1))) (ev_name rfl) ev_cint (fun s a b _ ha hb => op_add_int ha hb)) (by congr 1)) off_any (.inl rfl)) ?_
        have keep : ∀ {ps : List PV} {ρ : Ro}, True := trivial
        by_cases h42 : c = 42
        · subst h42
          refine xs_one (ρ' := ρs (k + 1)) (x_if (b := true) G (EB.cast (eb_cmp (P1 := R (.str ⟨#[42]⟩)) (P2 := R (.str "*")) (ev_name rfl) ev_cstr (fun s a c _ ha hc => op_eq_str ha hc)) (by decide)) (fun _ => ?_) (fun q => by cases q)) (xs_nil fun h F => ⟨rfl, F⟩)
          refine xs_one (ρ' := ρs (k + 1)) (x_if (b := (trN fp k).isEmpty || ((trN fp k).getLast?.getD none).isSome) G ?_ (fun hcond => ?_) (fun hcond => ?_)) (xs_nil fun h F => ⟨rfl, F⟩)
          · refine EB.cast (eb_or2 (b := ((trN fp k).getLast?.getD none).isSome) (eb_not (eb_val (P := At D ((trN fp k).map pO)) (ev_name rfl) (fun s v G r => tr_list (At.r r) (by rw [List.length_map]; omega)))) (fun hne => ?_)) (by simp)
            have hne' : trN fp k ≠ [] := by simpa using hne
            have hlast : (trN fp k).getLast? = some ((trN fp k).getLast hne') := List.getLast?_eq_some_getLast hne'
            have hpos : 0 < (trN fp k).length := List.length_pos_iff.mpr hne'
            refine eb_cmp (P1 := R (pO ((trN fp k).getLast?.getD none))) (P2 := R .none) (ev_sub (P1 := At D ((trN fp k).map pO)) (P2 := R (.int (-1))) (ev_name rfl) (ev_neg ev_cint) (fun s a b _ ha hb => op_item_neg (At.r ha) hb (by decide) (by rw [List.length_map]; omega) (by decide) ?_)) (ev_name rfl) (fun s a c _ ha hc => op_isnot_none ha hc)
            rw [hlast, List.length_map]
            have : ((-1 : Int) + ((trN fp k).length : Int)).toNat = (trN fp k).length - 1 := by omega
            rw [this, List.getElem?_map, ← List.getLast?_eq_getElem?, hlast]
            rfl
          · have estep : (trN fp (k + 1)).map pO = (trN fp k).map pO ++ [.none] := by
              rw [trN_succ ec]; unfold trStep; rw [if_pos rfl, if_pos hcond]; simp [pO]
            refine xs_one (x_add (x := "res") (ρ' := [("i", R (.int ((k + 1 : Nat) : Int))), ("add", Bd D), ("n", R (.int 7)), ("pat", R (.str fp)), ("STAR", R .none)]) G hD (.head _) (ev_name rfl) (ev_name (P := R .none) rfl) rfl (not_occ_atom fun l q => by cases q) (by rw [List.length_map]; omega)
              (keep1_cons (off1_atom fun l q => by cases q) (keep1_cons off1_Bd (keep1_cons (off1_atom fun l q => by cases q) (keep1_cons (off1_atom fun l q => by cases q) (keep1_cons (off1_atom fun l q => by cases q) keep1_nil)))))) ?_
            refine xs_sub (sub_cons (sub_cons ?_ (by rw [estep]; rfl)))
            exact sub_cons (sub_cons (sub_cons (sub_cons sub_nil)))
          · have estep : (trN fp (k + 1)).map pO = (trN fp k).map pO := by
              rw [trN_succ ec]; unfold trStep; rw [if_pos rfl, if_neg (by rw [hcond]; exact Bool.false_ne_true)]
            refine xs_sub (sub_cons (sub_cons ?_ (by rw [estep]; rfl)))
            exact sub_cons (sub_cons (sub_cons (sub_cons sub_nil)))
        · have estep : (trN fp (k + 1)).map pO = (trN fp k).map pO ++ [.str (escC c)] := by
            rw [trN_succ ec]; unfold trStep; rw [if_neg h42]; simp [pO]
          have hc' : c ∈ [46, 97, 98, 99, 108, 111, 55] := by
            rcases List.mem_cons.mp hcm with q | q
            · exact absurd q h42
            · exact q
          have h63 : (c == 63) = false := by revert hc'; simp; omega
          have h91 : (c == 91) = false := by revert hc'; simp; omega
          have h42' : (c == 42) = false := by simpa using h42
          refine xs_one (ρ' := ρs (k + 1)) (x_if (b := false) G (EB.cast (eb_cmp (P1 := R (.str ⟨#[c]⟩)) (P2 := R (.str "*")) (ev_name rfl) ev_cstr (fun s a c _ ha hc => op_eq_str ha hc)) ((chr_beq c 42).trans h42')) (fun q => by cases q) (fun _ => ?_)) (xs_nil fun h F => ⟨rfl, F⟩)
          refine xs_one (ρ' := ρs (k + 1)) (x_if (b := false) G (EB.cast (eb_cmp (P1 := R (.str ⟨#[c]⟩)) (P2 := R (.str "?")) (ev_name rfl) ev_cstr (fun s a c _ ha hc => op_eq_str ha hc)) ((chr_beq c 63).trans h63)) (fun q => by cases q) (fun _ => ?_)) (xs_nil fun h F => ⟨rfl, F⟩)
          refine xs_one (ρ' := ρs (k + 1)) (x_if (b := false) G (EB.cast (eb_cmp (P1 := R (.str ⟨#[c]⟩)) (P2 := R (.str "[")) (ev_name rfl) ev_cstr (fun s a c _ ha hc => op_eq_str ha hc)) ((chr_beq c 91).trans h91)) (fun q => by cases q) (fun _ => ?_)) (xs_nil fun h F => ⟨rfl, F⟩)
          refine xs_one (x_add (x := "res") (p := .str (escC c)) (ρ' := [("i", R (.int ((k + 1 : Nat) : Int))), ("add", Bd D), ("n", R (.int 7)), ("pat", R (.str fp)), ("STAR", R .none)]) G hD (.head _) (ev_name rfl)
            (ev_call (n := 1) hR (ev_glob (v := .ref 81) (p := .obj 81) (fun _ => rfl) (fun h => .obj 81 (by decide))) (fun _ => rfl) (evs_cons (P := R (.str ⟨#[c]⟩)) (ev_name rfl) evs_nil) (escape_spec false w c hc')) rfl (not_occ_atom fun l q => by cases q) (by rw [List.length_map]; omega)
            (keep1_cons (off1_atom fun l q => by cases q) (keep1_cons off1_Bd (keep1_cons (off1_atom fun l q => by cases q) (keep1_cons (off1_atom fun l q => by cases q) (keep1_cons (off1_atom fun l q => by cases q) keep1_nil)))))) ?_
          refine xs_sub (sub_cons (sub_cons ?_ (by rw [estep]; rfl)))
          exact sub_cons (sub_cons (sub_cons (sub_cons sub_nil)))
      · refine xm_one (x_set (P := R (.str ⟨#[91]⟩)) G (ev_sub (P1 := R (.str fp)) (P2 := R (.int (2 : Nat))) (ev_name rfl) (ev_name rfl) (fun s a b _ ha hb => op_item_str (c := 91) ha hb (by decide) (by decide) (by decide))) off_any (.inl rfl)) ?_
        refine xm_one (x_set (P := R (.int 3)) G (EV.cast (ev_bin (P1 := R (.int (2 : Nat))) (P2 := R (.int 1)) (P := R (.int ((2 : Nat) + 1))) (ev_name rfl) ev_cint (fun s a b _ ha hb => op_add_int ha hb)) rfl) off_any (.inl rfl)) ?_
        refine xm_go (ρ' := ρe) (xm_if (b := false) G (EB.cast (eb_cmp (P1 := R (.str ⟨#[91]⟩)) (P2 := R (.str "*")) (ev_name rfl) ev_cstr (fun s a c _ ha hc => op_eq_str ha hc)) (by decide)) (fun q => by cases q) (fun _ => ?_)) (xs_nil fun h F => ⟨rfl, F⟩)
        refine xm_go (ρ' := ρe) (xm_if (b := false) G (EB.cast (eb_cmp (P1 := R (.str ⟨#[91]⟩)) (P2 := R (.str "?")) (ev_name rfl) ev_cstr (fun s a c _ ha hc => op_eq_str ha hc)) (by decide)) (fun q => by cases q) (fun _ => ?_)) (xs_nil fun h F => ⟨rfl, F⟩)
        refine xm_go (ρ' := ρe) (xm_if (b := true) G (EB.cast (eb_cmp (P1 := R (.str ⟨#[91]⟩)) (P2 := R (.str "[")) (ev_name rfl) ev_cstr (fun s a c _ ha hc => op_eq_str ha hc)) (by decide)) (fun _ => ?_) (fun q => by cases q)) (xs_nil fun h F => ⟨rfl, F⟩)
        exact xm_sub (sub_cons (sub_cons (sub_cons (sub_cons (sub_cons (sub_cons sub_nil)))) (by rw [← e2]; rfl))) (br_walk hR G hD h83)
      · exact EB.cast (eb_cmp (P1 := R (.int 7)) (P2 := R (.int 7)) (ev_name rfl) (ev_name rfl) (fun s a c _ ha hc => op_lt_int ha hc)) (by decide)
      · refine xs_one (x_assert G hR.1 (EB.cast (eb_cmp (P1 := R (.int 7)) (P2 := R (.int 7)) (ev_name rfl) (ev_name rfl) (fun s a c _ ha hc => op_eq_int ha hc)) (by decide))) ?_
        exact xs_last (x_ret G (ev_at (ev_name rfl)))
    exact key s₁ K₁ F₁ E
end Mine

/- C23 -/
open PySem PySem.Spec PySem.Calls PySem.W PyProof.Rows
set_option maxRecDepth 100000
namespace Mine
theorem law_all (w : World) (xs : List Int) (hx : xs.length ≤ 63) :
    ∀ A s vs, Room 7 A → Gd w s.heap → s.heap.get? 83 = some (tabObj #[]) → SPs s.heap vs [LI xs] → Ev true w A (call (.ref 148) vs) (R (.bool true)).P s := by
  have F0 := hosts_facts xs
  have F := F0.F
  refine law_spec w xs _ (by omega) F0 (taken83_spec w "*.[0-9]" figItems ((hostsP xs).map rowP) (translate83 w) (by decide) ?_ fun row hrow => ?_)
  · rw [List.length_map]
    have := F.hn
    omega
  · obtain ⟨h, hh, rfl⟩ := List.mem_map.mp hrow
    exact row_len (gt_len (F.hg h hh).1)
end Mine

/- C24 -/
open PySem PySem.Spec PySem.Calls PySem.W PyProof.Rows
set_option maxRecDepth 100000
namespace Mine
theorem oldK_of {w : World} {h h' : Heap} (X : (KK w.params).In h) (t1 : h.get? 116 = some (tabObj #[])) (t2 : h.get? 83 = some (tabObj #[])) (k : Kp true h h') : OldK h h' := by
  have tb : Tb h := ⟨.inl t1, _, t2⟩
  have tb' := k.tb tb
  have grown : ∀ P c ps, CodeHd h c P → h.get? P = some (tabObj #[]) → h'.get? P = some (tabObj ps) → ∀ o, h.get? P = some o → asItWas h h' P o := fun P c ps C e e' o ho => by
    rw [e] at ho
    cases ho
    refine .inr (.inl ⟨(C.tab e).isCodeTable, rfl, #[], ps, rfl, ?_⟩)
    rw [e']
    simp
  obtain ⟨ps, e83⟩ := tb'.2
  obtain ⟨qs, e116⟩ : ∃ qs, h'.get? 116 = some (tabObj qs) := by
    rcases tb'.1 with e | ⟨c', e, _⟩
    · exact ⟨_, e⟩
    · exact ⟨_, e⟩
  refine ⟨fun b o e => ?_, fun b o e => ?_⟩
  · by_cases h1 : b = 116
    · subst h1
      exact grown 116 118 qs (codeHd_of_K X (by kernel_rfl)) t1 e116 o e
    · by_cases h2 : b = 83
      · subst h2
        exact grown 83 87 ps (codeHd_of_K X (by kernel_rfl)) t2 e83 o e
      · exact .inl (k.keep b o h1 (fun _ => h2) e)
  · by_cases h1 : b = 116
    · exact ⟨_, h1 ▸ e116⟩
    · by_cases h2 : b = 83
      · exact ⟨_, h2 ▸ e83⟩
      · exact ⟨o, k.keep b o h1 (fun _ => h2) e⟩
theorem rps_ints {h : Heap} {vs : List Value} {xs : List Int} (r : IntsAre vs xs) : Rps h vs (xs.map .int) := by
  induction r with
  | nil => exact .nil
  | cons i t _ ih => exact .cons (.int i t) ih
theorem well_plain {P : Params} {h : Heap} {a : Addr} {xs : List Int} {vs : List Value} (x : Well P h (.ref a) (ofPy (PyData.list (xs.map PyData.int)))) (l : h.IsList a vs.toArray) : h.PlainList a vs.toArray := by
  unfold ofPy at x
  cases x with
  | list e _ =>
    obtain ⟨o, e1, _, n, e2⟩ := l
    rw [e] at e1
    cases e1
    cases e2
    exact ⟨0, e⟩
theorem room_caller : Room 7 callerA := by
  refine ⟨rfl, ?_, ?_⟩
  · show 1 + claimMargin + 7 < recursionLimit
    decide
  · show 4 + 8 * 7 + 8 < cLine
    decide
theorem gd_of {w : World} {p : Program} {loose : List Str} {mean : ExcName → Option Value} {mg mb : Str → Option Value} {h : Heap} (X : (KK w.params).In h) (t1 : h.get? 116 = some (tabObj #[])) (t2 : h.get? 83 = some (tabObj #[])) (T : Top p loose mean mg mb h) : Gd w h where
  K := X
  g := ⟨mg, T.g⟩
  b := ⟨mb, T.b, T.builtins⟩
  lim := T.nolimit
  tb := ⟨.inl t1, _, t2⟩
  bm := fun mg' e => by
    have := Ns.uniq e T.g
    subst this
    exact T.bmain
set_option maxRecDepth 100000 in
set_option maxHeartbeats 8000000 in
theorem the_law : PySem.Challenge.rw_in0267_01.Holds := by
  refine holds_law well_said (fun _ => ?_)
  refine holds_open (q := qV) (loose := looseN) (Xt := fun s => xlAt qV [] s && recOk [] s) (XP := XL qV []) (Yf := Hook.obs HK) (Ya := Hook.val HK) (YP := Hook.says HK) (N := 4032) ?hl (Hook.of HK) (Hook.keeps HK) (fun s e => xl_of s (Bool.and_eq_true_iff.mp e).1) XL.keeps (by rfl) (by rfl) (by rfl) (fun s e => recFacts_of (Bool.and_eq_true_iff.mp e).2) (by rfl) (by first | assumption | decide +kernel) (by decide +kernel) ⟨rfl, rfl, rfl, rfl, rfl, by decide +kernel⟩ ?hw ?hc
  case hl => exact byRow2 (P := LeftAt) "special-get-raises" (byRow2 (P := fun w => LeftAt (w.withFollow "special-get-raises" false)) "comprehension-iter-twice" left1 left3) (byRow2 (P := fun w => LeftAt (w.withFollow "special-get-raises" true)) "comprehension-iter-twice" left2 left4)
  case hw => w_witness2
  intro w s₀ s₁ mg mb G Y fa o pm cd doc dV kV ho hd hcd hD hmg hg args vals as hpre hlay hrd hwl hlo
  have KX := km_in_of Y
  have T1 := km_tabs_of Y 116 (by decide)
  have T2 := km_tabs_of Y 83 (by decide)
  have GG := gd_of KX T1 T2 G.T
  have e148 : mg ("law" : Str) = some (.ref 148) := mg_of KX G.T.g (by rfl)
  have hfa : fa = 148 := by
    have : mg ("law" : Str) = some (.ref fa) := hmg
    rw [e148] at this
    cases this; rfl
  subst hfa
  clear ho hd hcd hD hmg
  wrow_args hpre hlay hrd hwl hlo
  rename_i xs _ _ _ _ _ _ _ l vs _ hL _ hW _ hI _ hc1 _
  refine wpAny_mono (law_all w xs (by omega) callerA s₁ [.ref l] room_caller GG T2 ⟨⟨l, vs, rfl, well_plain hW hL, rps_ints hI⟩, trivial⟩ _) (fun v s' q => ?_) fun _ _ e => e
  obtain ⟨r, ⟨h', tk, gs, rfl, hb⟩, k⟩ := q
  have r : Rp h' v (.bool true) := r
  cases r
  exact ⟨.inl ⟨.bool true, .bool true, [], rfl, fun cls => rfl, .bool true, by wrow_post, fun _ => ⟨.nil, fun a h => nomatch h⟩⟩, oldK_of KX T1 T2 k, rfl, hb (AllBare.of_eq hg)⟩
end Mine

theorem PySem.Challenge.cw_in0267_01_holds : PySem.Challenge.rw_in0267_01.Holds :=
  Mine.the_law
